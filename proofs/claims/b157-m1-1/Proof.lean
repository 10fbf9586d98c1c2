import JvmDerived
import JvmDerived.Pilot.@@N@@Statement
import JvmDerived.Pilot.@@N@@Code
set_option linter.unusedVariables false
set_option linter.unusedSimpArgs false
namespace Jvm.RoadKit
open Sem ClassFile Op Lib Jvm.Stand Jvm.Free Jvm.LawKit
section New
variable {p : Program} {l : Launch} {e : Env} {R : Room} {s : State} {m : MethodId} {args : Array Value} {below : List Frame} {meth : Method} {c : Code} {T : State} {locs : List Loc} {cells slots : Nat}
/-- what a body hands back: the value r, and K of the heap and the places at its end -/
def own_Q (r : Option Value) (K : Heap → List Loc → Prop) (v : Option Value) (h : Heap) (L : List Loc) : Prop := v = r ∧ K h L
/-- nothing is written, nothing is made -/
def own_K0 (h0 : Heap) (h : Heap) (L : List Loc) : Prop := L = [] ∧ h = h0
/-- from F on the run returns r with K -/
def own_Go (p : Program) (e : Env) (below : List Frame) (s : State) (C N : Nat) (r : Option Value) (K : Heap → List Loc → Prop) (F : State) : Prop :=
  ∃ s₂ o, Steps p.tables e below F s₂ ∧ s₂.status = .running ∧ Ended s₂ below o ∧ ∃ v L, o = .returned v ∧ own_Q r K v s₂.heap L ∧ FrameEnd s o s₂ L C N
theorem own_pre {C N : Nat} {r : Option Value} {K : Heap → List Loc → Prop} {F F' : State} (h : ∀ t, Steps p.tables e below F' t → Steps p.tables e below F t) (g : own_Go p e below s C N r K F') : own_Go p e below s C N r K F := by
  obtain ⟨t, o, a, b⟩ := g
  exact ⟨t, o, h t a, b⟩
theorem own_iteI {C N : Nat} {K : Heap → List Loc → Prop} {F : State} {P : Prop} [Decidable P] {a b : Int32} (h1 : P → own_Go p e below s C N (some (.int a)) K F) (h2 : ¬ P → own_Go p e below s C N (some (.int b)) K F) : own_Go p e below s C N (some (.int (if P then a else b))) K F := by
  by_cases q : P
  · rw [if_pos q]; exact h1 q
  · rw [if_neg q]; exact h2 q
theorem own_iteJ {C N : Nat} {K : Heap → List Loc → Prop} {F : State} {P : Prop} [Decidable P] {a b : Int64} (h1 : P → own_Go p e below s C N (some (.long a)) K F) (h2 : ¬ P → own_Go p e below s C N (some (.long b)) K F) : own_Go p e below s C N (some (.long (if P then a else b))) K F := by
  by_cases q : P
  · rw [if_pos q]; exact h1 q
  · rw [if_neg q]; exact h2 q
theorem own_iteR {C N : Nat} {K : Heap → List Loc → Prop} {F : State} {P : Prop} [Decidable P] {a b : Addr} (h1 : P → own_Go p e below s C N (some (.ref a)) K F) (h2 : ¬ P → own_Go p e below s C N (some (.ref b)) K F) : own_Go p e below s C N (some (.ref (if P then a else b))) K F := by
  by_cases q : P
  · rw [if_pos q]; exact h1 q
  · rw [if_neg q]; exact h2 q
theorem own_iteV {C N : Nat} {K : Heap → List Loc → Prop} {F : State} {P : Prop} [Decidable P] {a b : Value} (h1 : P → own_Go p e below s C N (some a) K F) (h2 : ¬ P → own_Go p e below s C N (some b) K F) : own_Go p e below s C N (some (if P then a else b)) K F := by
  by_cases q : P
  · rw [if_pos q]; exact h1 q
  · rw [if_neg q]; exact h2 q
theorem own_ret (X : Stand p l e R s m args below meth c T locs cells slots) (hx : p.tables.exec = Jvm.exec) (hlocks : meth.locks = false) {pc : Nat} {Ls : Array Slot} {w : Value} {t : FieldType} {i : Instr} {rest : List Value} {C N : Nat} {K : Heap → List Loc → Prop} (hret : meth.sig.returnType = some t) (hn : narrow t w = w)
    (hi : (i = .ireturn ∧ (t = .int ∨ t = .boolean ∨ t = .byte ∨ t = .char ∨ t = .short) ∧ ∃ z, w = .int z) ∨ (i = .lreturn ∧ t = .long ∧ ∃ z, w = .long z) ∨ (i = .areturn ∧ t.isReference = true ∧ w.isRef = true))
    (hd : decode c.code pc = .ok (i, 1)) (hK : K T.heap locs) (hC : cells ≤ C) (hN : slots ≤ N) : own_Go p e below s C N (some w) K (T.setTop (mkF m pc Ls (w :: rest))) := by
  obtain ⟨fs, hr, hrun, hended, hW, hsame⟩ := X.leave (v := some w) (fun h => by rw [hret] at h; cases h)
  refine ⟨_, _, retOut X hx hret hn ?_ hd hr, hrun, hended, _, _, rfl, ⟨rfl, hK⟩, ⟨_, rfl⟩, hW, hsame.mono hC hN⟩
  rcases hi with h | h | h
  · exact Or.inl h
  · exact Or.inr (Or.inl h)
  · exact Or.inr (Or.inr (Or.inr (Or.inr h)))
theorem own_retN (X : Stand p l e R s m args below meth c T locs cells slots) (hx : p.tables.exec = Jvm.exec) (hlocks : meth.locks = false) {pc : Nat} {Ls : Array Slot} {z : Int32} {t : FieldType} {rest : List Value} {C N : Nat} {K : Heap → List Loc → Prop} (hret : meth.sig.returnType = some t) (ht : t = .boolean ∨ t = .byte ∨ t = .char ∨ t = .short)
    (hd : decode c.code pc = .ok (.ireturn, 1)) (hK : K T.heap locs) (hC : cells ≤ C) (hN : slots ≤ N) : own_Go p e below s C N (some (.int (nar t z))) K (T.setTop (mkF m pc Ls (.int z :: rest))) := by
  obtain ⟨fs, hr, hrun, hended, hW, hsame⟩ := X.leave (v := some (.int (nar t z))) (fun h => by rw [hret] at h; cases h)
  exact ⟨_, _, retN X hx hret ht hd hr, hrun, hended, _, _, rfl, ⟨rfl, hK⟩, ⟨_, rfl⟩, hW, hsame.mono hC hN⟩
theorem own_retV (X : Stand p l e R s m args below meth c T locs cells slots) (hx : p.tables.exec = Jvm.exec) (hlocks : meth.locks = false) {pc : Nat} {Ls : Array Slot} {C N : Nat} {K : Heap → List Loc → Prop} (hret : meth.sig.returnType = none)
    (hd : decode c.code pc = .ok (.return_, 1)) (hK : K T.heap locs) (hC : cells ≤ C) (hN : slots ≤ N) : own_Go p e below s C N none K (T.setTop (mkF m pc Ls [])) := by
  obtain ⟨fs, hr, hrun, hended, hW, hsame⟩ := X.leave (v := none) (fun _ => rfl)
  exact ⟨_, _, X.returnOut hx hret hd hr, hrun, hended, _, _, rfl, ⟨rfl, hK⟩, ⟨_, rfl⟩, hW, hsame.mono hC hN⟩
theorem own_lremM {g : JFrame} {target : State} (X : Stand p l e R s m args below meth c T locs cells slots) (hx : p.tables.exec = Jvm.exec) (hg : g.method = m) {x y : Int64} {rest : List Value} (hd : decode c.code g.pc = .ok (.lrem, 1)) (hs : g.stack = .long y :: .long x :: rest) (hy : y ≠ 0)
    (hr : Steps p.tables e below (T.setTop { g with pc := g.pc + 1, stack := .long (x % y) :: rest }) target) : Steps p.tables e below (T.setTop g) target :=
  XS.lrem X.here hx hg hd hs hy (by rw [lrem_mod]; exact hr)
theorem own_cat {v : Value} (h : v.isRef = true) : v.category = 1 := by rcases ref_cases h with rfl | ⟨a, rfl⟩ <;> rfl
theorem own_nar (z : Int32) : nar .boolean z = z &&& 1 := rfl
end New
end Jvm.RoadKit
namespace Jvm.RoadKit
open Sem ClassFile Op Lib Jvm.Stand Jvm.Free Jvm.LawKit
section New2
variable {p : Program} {l : Launch} {e : Env} {R : Room} {s : State} {m : MethodId} {args : Array Value} {below : List Frame} {meth : Method} {c : Code} {T : State} {locs : List Loc} {cells slots : Nat}
theorem own_iteT {α : Type} {C N : Nat} (R : α → Option Value) (K : α → Heap → List Loc → Prop) {F : State} {P : Prop} [Decidable P] {a b : α} (h1 : P → own_Go p e below s C N (R a) (K a) F) (h2 : ¬ P → own_Go p e below s C N (R b) (K b) F) : own_Go p e below s C N (R (if P then a else b)) (K (if P then a else b)) F := by
  by_cases q : P
  · rw [if_pos q]; exact h1 q
  · rw [if_neg q]; exact h2 q
theorem own_staKeep {Z : State} {h h' : Heap} {C n d : String} {w : Value} {ws : List Addr} (F : Sta Z h C n d w) (K : Keep h h' ws) (q : ∀ x ∈ ws, ∀ c : Cell, h[x]? = some c → c.vm.isStatics = false) : Sta Z h' C n d w := by
  obtain ⟨cf, i, k, f, st, cell, h1, h2, h3, h4, h5, h6, h7⟩ := F
  exact ⟨cf, i, k, f, st, cell, h1, h2, h3, h4, K.2.1 _ _ h5 (fun hm => by have := q st hm cell h5; rw [h6] at this; cases this), h6, h7⟩
theorem own_nost1 {Z : State} {h : Heap} {a : Addr} {C : String} (E : Exa Z h a C) : ∀ x ∈ [a], ∀ c : Cell, h[x]? = some c → c.vm.isStatics = false := fun x hx c hc => by
  cases List.mem_singleton.mp hx; exact E.nostat c hc
theorem own_locs (X : Stand p l e R s m args below meth c T (locs ++ []) cells slots) : Stand p l e R s m args below meth c T locs cells slots := by rw [List.append_nil] at X; exact X
theorem own_KF {n0 : Nat} {h : Heap} {L : List Loc} (N : Fr n0 L) : (fun (_ : Heap) (L : List Loc) => Fr n0 L) h L := N
end New2
end Jvm.RoadKit
namespace Jvm.Pilot.@@N@@
open Jvm Jvm.ClassFile Sem Op Lib Jvm.Free Jvm.Stand Jvm.LawKit Jvm.RoadKit Bundle Jvm.Pilot.@@N@@.Jvm.D
/-! body 1 -/
theorem d1_0 : decode prog_63_method_3_code 0 = .ok (.iload_n 0, 1) := by decide +kernel
theorem d1_1 : decode prog_63_method_3_code 1 = .ok (.bipush 65, 2) := by decide +kernel
theorem d1_3 : decode prog_63_method_3_code 3 = .ok (.if_icmp .lt 9, 3) := by decide +kernel
theorem d1_6 : decode prog_63_method_3_code 6 = .ok (.iload_n 0, 1) := by decide +kernel
theorem d1_7 : decode prog_63_method_3_code 7 = .ok (.bipush 90, 2) := by decide +kernel
theorem d1_9 : decode prog_63_method_3_code 9 = .ok (.if_icmp .le 182, 3) := by decide +kernel
theorem d1_12 : decode prog_63_method_3_code 12 = .ok (.iload_n 0, 1) := by decide +kernel
theorem d1_13 : decode prog_63_method_3_code 13 = .ok (.bipush 95, 2) := by decide +kernel
theorem d1_15 : decode prog_63_method_3_code 15 = .ok (.if_icmp .eq 176, 3) := by decide +kernel
theorem d1_18 : decode prog_63_method_3_code 18 = .ok (.iload_n 0, 1) := by decide +kernel
theorem d1_19 : decode prog_63_method_3_code 19 = .ok (.bipush 97, 2) := by decide +kernel
theorem d1_21 : decode prog_63_method_3_code 21 = .ok (.if_icmp .lt 9, 3) := by decide +kernel
theorem d1_24 : decode prog_63_method_3_code 24 = .ok (.iload_n 0, 1) := by decide +kernel
theorem d1_25 : decode prog_63_method_3_code 25 = .ok (.bipush 122, 2) := by decide +kernel
theorem d1_27 : decode prog_63_method_3_code 27 = .ok (.if_icmp .le 164, 3) := by decide +kernel
theorem d1_30 : decode prog_63_method_3_code 30 = .ok (.iload_n 0, 1) := by decide +kernel
theorem d1_31 : decode prog_63_method_3_code 31 = .ok (.sipush 192, 3) := by decide +kernel
theorem d1_34 : decode prog_63_method_3_code 34 = .ok (.if_icmp .lt 10, 3) := by decide +kernel
theorem d1_37 : decode prog_63_method_3_code 37 = .ok (.iload_n 0, 1) := by decide +kernel
theorem d1_38 : decode prog_63_method_3_code 38 = .ok (.sipush 214, 3) := by decide +kernel
theorem d1_41 : decode prog_63_method_3_code 41 = .ok (.if_icmp .le 150, 3) := by decide +kernel
theorem d1_44 : decode prog_63_method_3_code 44 = .ok (.iload_n 0, 1) := by decide +kernel
theorem d1_45 : decode prog_63_method_3_code 45 = .ok (.sipush 216, 3) := by decide +kernel
theorem d1_48 : decode prog_63_method_3_code 48 = .ok (.if_icmp .lt 10, 3) := by decide +kernel
theorem d1_51 : decode prog_63_method_3_code 51 = .ok (.iload_n 0, 1) := by decide +kernel
theorem d1_52 : decode prog_63_method_3_code 52 = .ok (.sipush 246, 3) := by decide +kernel
theorem d1_55 : decode prog_63_method_3_code 55 = .ok (.if_icmp .le 136, 3) := by decide +kernel
theorem d1_58 : decode prog_63_method_3_code 58 = .ok (.iload_n 0, 1) := by decide +kernel
theorem d1_59 : decode prog_63_method_3_code 59 = .ok (.sipush 248, 3) := by decide +kernel
theorem d1_62 : decode prog_63_method_3_code 62 = .ok (.if_icmp .lt 10, 3) := by decide +kernel
theorem d1_65 : decode prog_63_method_3_code 65 = .ok (.iload_n 0, 1) := by decide +kernel
theorem d1_66 : decode prog_63_method_3_code 66 = .ok (.sipush 767, 3) := by decide +kernel
theorem d1_69 : decode prog_63_method_3_code 69 = .ok (.if_icmp .le 122, 3) := by decide +kernel
theorem d1_72 : decode prog_63_method_3_code 72 = .ok (.iload_n 0, 1) := by decide +kernel
theorem d1_73 : decode prog_63_method_3_code 73 = .ok (.sipush 880, 3) := by decide +kernel
theorem d1_76 : decode prog_63_method_3_code 76 = .ok (.if_icmp .lt 10, 3) := by decide +kernel
theorem d1_79 : decode prog_63_method_3_code 79 = .ok (.iload_n 0, 1) := by decide +kernel
theorem d1_80 : decode prog_63_method_3_code 80 = .ok (.sipush 893, 3) := by decide +kernel
theorem d1_83 : decode prog_63_method_3_code 83 = .ok (.if_icmp .le 108, 3) := by decide +kernel
theorem d1_86 : decode prog_63_method_3_code 86 = .ok (.iload_n 0, 1) := by decide +kernel
theorem d1_87 : decode prog_63_method_3_code 87 = .ok (.sipush 895, 3) := by decide +kernel
theorem d1_90 : decode prog_63_method_3_code 90 = .ok (.if_icmp .lt 10, 3) := by decide +kernel
theorem d1_93 : decode prog_63_method_3_code 93 = .ok (.iload_n 0, 1) := by decide +kernel
theorem d1_94 : decode prog_63_method_3_code 94 = .ok (.sipush 8191, 3) := by decide +kernel
theorem d1_97 : decode prog_63_method_3_code 97 = .ok (.if_icmp .le 94, 3) := by decide +kernel
theorem d1_100 : decode prog_63_method_3_code 100 = .ok (.iload_n 0, 1) := by decide +kernel
theorem d1_101 : decode prog_63_method_3_code 101 = .ok (.sipush 8204, 3) := by decide +kernel
theorem d1_104 : decode prog_63_method_3_code 104 = .ok (.if_icmp .lt 10, 3) := by decide +kernel
theorem d1_107 : decode prog_63_method_3_code 107 = .ok (.iload_n 0, 1) := by decide +kernel
theorem d1_108 : decode prog_63_method_3_code 108 = .ok (.sipush 8205, 3) := by decide +kernel
theorem d1_111 : decode prog_63_method_3_code 111 = .ok (.if_icmp .le 80, 3) := by decide +kernel
theorem d1_114 : decode prog_63_method_3_code 114 = .ok (.iload_n 0, 1) := by decide +kernel
theorem d1_115 : decode prog_63_method_3_code 115 = .ok (.sipush 8304, 3) := by decide +kernel
theorem d1_118 : decode prog_63_method_3_code 118 = .ok (.if_icmp .lt 10, 3) := by decide +kernel
theorem d1_121 : decode prog_63_method_3_code 121 = .ok (.iload_n 0, 1) := by decide +kernel
theorem d1_122 : decode prog_63_method_3_code 122 = .ok (.sipush 8591, 3) := by decide +kernel
theorem d1_125 : decode prog_63_method_3_code 125 = .ok (.if_icmp .le 66, 3) := by decide +kernel
theorem d1_128 : decode prog_63_method_3_code 128 = .ok (.iload_n 0, 1) := by decide +kernel
theorem d1_129 : decode prog_63_method_3_code 129 = .ok (.sipush 11264, 3) := by decide +kernel
theorem d1_132 : decode prog_63_method_3_code 132 = .ok (.if_icmp .lt 10, 3) := by decide +kernel
theorem d1_135 : decode prog_63_method_3_code 135 = .ok (.iload_n 0, 1) := by decide +kernel
theorem d1_136 : decode prog_63_method_3_code 136 = .ok (.sipush 12271, 3) := by decide +kernel
theorem d1_139 : decode prog_63_method_3_code 139 = .ok (.if_icmp .le 52, 3) := by decide +kernel
theorem d1_142 : decode prog_63_method_3_code 142 = .ok (.iload_n 0, 1) := by decide +kernel
theorem d1_143 : decode prog_63_method_3_code 143 = .ok (.sipush 12289, 3) := by decide +kernel
theorem d1_146 : decode prog_63_method_3_code 146 = .ok (.if_icmp .lt 9, 3) := by decide +kernel
theorem d1_149 : decode prog_63_method_3_code 149 = .ok (.iload_n 0, 1) := by decide +kernel
theorem d1_150 : decode prog_63_method_3_code 150 = .ok (.ldc 41, 2) := by decide +kernel
theorem d1_152 : decode prog_63_method_3_code 152 = .ok (.if_icmp .le 39, 3) := by decide +kernel
theorem d1_155 : decode prog_63_method_3_code 155 = .ok (.iload_n 0, 1) := by decide +kernel
theorem d1_156 : decode prog_63_method_3_code 156 = .ok (.ldc 42, 2) := by decide +kernel
theorem d1_158 : decode prog_63_method_3_code 158 = .ok (.if_icmp .lt 9, 3) := by decide +kernel
theorem d1_161 : decode prog_63_method_3_code 161 = .ok (.iload_n 0, 1) := by decide +kernel
theorem d1_162 : decode prog_63_method_3_code 162 = .ok (.ldc 43, 2) := by decide +kernel
theorem d1_164 : decode prog_63_method_3_code 164 = .ok (.if_icmp .le 27, 3) := by decide +kernel
theorem d1_167 : decode prog_63_method_3_code 167 = .ok (.iload_n 0, 1) := by decide +kernel
theorem d1_168 : decode prog_63_method_3_code 168 = .ok (.ldc 44, 2) := by decide +kernel
theorem d1_170 : decode prog_63_method_3_code 170 = .ok (.if_icmp .lt 9, 3) := by decide +kernel
theorem d1_173 : decode prog_63_method_3_code 173 = .ok (.iload_n 0, 1) := by decide +kernel
theorem d1_174 : decode prog_63_method_3_code 174 = .ok (.ldc 45, 2) := by decide +kernel
theorem d1_176 : decode prog_63_method_3_code 176 = .ok (.if_icmp .le 15, 3) := by decide +kernel
theorem d1_179 : decode prog_63_method_3_code 179 = .ok (.iload_n 0, 1) := by decide +kernel
theorem d1_180 : decode prog_63_method_3_code 180 = .ok (.ldc 46, 2) := by decide +kernel
theorem d1_182 : decode prog_63_method_3_code 182 = .ok (.if_icmp .lt 13, 3) := by decide +kernel
theorem d1_185 : decode prog_63_method_3_code 185 = .ok (.iload_n 0, 1) := by decide +kernel
theorem d1_186 : decode prog_63_method_3_code 186 = .ok (.ldc 47, 2) := by decide +kernel
theorem d1_188 : decode prog_63_method_3_code 188 = .ok (.if_icmp .gt 7, 3) := by decide +kernel
theorem d1_191 : decode prog_63_method_3_code 191 = .ok (.iconst 1, 1) := by decide +kernel
theorem d1_192 : decode prog_63_method_3_code 192 = .ok (.goto 4, 3) := by decide +kernel
theorem d1_195 : decode prog_63_method_3_code 195 = .ok (.iconst 0, 1) := by decide +kernel
theorem d1_196 : decode prog_63_method_3_code 196 = .ok (.ireturn, 1) := by decide +kernel
theorem own_pn0 : plainName "com/example/tsugiki/tsugiki/xml/XmlNames" = true := by first | (simp [plainName, overriddenIn]; done) | decide +kernel
def f1_195 (p0 : Int32) : Int32 := (0 : Int32)
set_option maxRecDepth 65536 in
set_option maxHeartbeats 40000000 in
theorem g1_195 {p : Program} {l : Launch} {e : Env} {s : State} {m : MethodId} {below : List Frame} {meth : Method} {c : Code} {s₁ : State} {ws : List Jvm.Cond} {Z : State} {aw : Array Value} (hw : ∀ d ∈ tables_1, d.before aw Z = true) {h0 : Heap} (p0 : Int32)
    (Bd : BodyLoose p l (⟨"com/example/tsugiki/tsugiki/xml/XmlNames", "isNameStartChar", "(I)Z"⟩ : MethodName) (head1 (Jvm.Cond.code (⟨"com/example/tsugiki/tsugiki/xml/XmlNames", "isNameStartChar", "(I)Z"⟩ : MethodName) prog_63_method_3_code 1 (some .boolean) :: ws) ({ frames := 0, cells := 0, slots := 0, locals := 0 } : Room)) prog_63_method_3_code 1 (some .boolean) e s m #[(.int p0)] below meth c s₁) (hml : c.maxLocals = 1) (hZ : Z.Warmed39 s.vm) (T0 : State) (X0 : Stand p l e ({ frames := 0, cells := 0, slots := 0, locals := 0 } : Room) s m #[(.int p0)] below meth c T0 [] 0 0) (e0 : T0.heap = h0) :
    own_Go p e below s ({ frames := 0, cells := 0, slots := 0, locals := 0 } : Room).cells ({ frames := 0, cells := 0, slots := 0, locals := 0 } : Room).slots (some (.int (f1_195 p0))) (own_K0 h0) (T0.setTop (mkF m 195 #[.val (.int p0)] [])) := by
  have hx := Bd.exec
  have hby := Bd.bytes
  have hown : s.vm.findClass "com/example/tsugiki/tsugiki/xml/XmlNames" = some m.cls := findClass_of_methodNamed Bd.named
  unfold f1_195
  refine own_pre (F' := T0.setTop (mkF m 196 #[.val (.int p0)] [(.int (0 : Int32))])) (fun _ k => XS.iconst X0.here hx rfl (hb hby d1_195) k) ?_
  exact own_ret X0 hx Bd.notSynchronized Bd.returns rfl (Or.inl ⟨rfl, by simp, _, rfl⟩) (hb hby d1_196) ⟨rfl, e0⟩ (by decide) (by decide)
def f1_191 (p0 : Int32) : Int32 := (1 : Int32)
set_option maxRecDepth 65536 in
set_option maxHeartbeats 40000000 in
theorem g1_191 {p : Program} {l : Launch} {e : Env} {s : State} {m : MethodId} {below : List Frame} {meth : Method} {c : Code} {s₁ : State} {ws : List Jvm.Cond} {Z : State} {aw : Array Value} (hw : ∀ d ∈ tables_1, d.before aw Z = true) {h0 : Heap} (p0 : Int32)
    (Bd : BodyLoose p l (⟨"com/example/tsugiki/tsugiki/xml/XmlNames", "isNameStartChar", "(I)Z"⟩ : MethodName) (head1 (Jvm.Cond.code (⟨"com/example/tsugiki/tsugiki/xml/XmlNames", "isNameStartChar", "(I)Z"⟩ : MethodName) prog_63_method_3_code 1 (some .boolean) :: ws) ({ frames := 0, cells := 0, slots := 0, locals := 0 } : Room)) prog_63_method_3_code 1 (some .boolean) e s m #[(.int p0)] below meth c s₁) (hml : c.maxLocals = 1) (hZ : Z.Warmed39 s.vm) (T0 : State) (X0 : Stand p l e ({ frames := 0, cells := 0, slots := 0, locals := 0 } : Room) s m #[(.int p0)] below meth c T0 [] 0 0) (e0 : T0.heap = h0) :
    own_Go p e below s ({ frames := 0, cells := 0, slots := 0, locals := 0 } : Room).cells ({ frames := 0, cells := 0, slots := 0, locals := 0 } : Room).slots (some (.int (f1_191 p0))) (own_K0 h0) (T0.setTop (mkF m 191 #[.val (.int p0)] [])) := by
  have hx := Bd.exec
  have hby := Bd.bytes
  have hown : s.vm.findClass "com/example/tsugiki/tsugiki/xml/XmlNames" = some m.cls := findClass_of_methodNamed Bd.named
  unfold f1_191
  refine own_pre (F' := T0.setTop (mkF m 192 #[.val (.int p0)] [(.int (1 : Int32))])) (fun _ k => XS.iconst X0.here hx rfl (hb hby d1_191) k) ?_
  refine own_pre (F' := T0.setTop (mkF m 196 #[.val (.int p0)] [(.int (1 : Int32))])) (fun _ k => XS.goto X0.here hx rfl (pc0 := 192) (pc' := 196) rfl (hb hby d1_192) (by decide) (by decide) k) ?_
  exact own_ret X0 hx Bd.notSynchronized Bd.returns rfl (Or.inl ⟨rfl, by simp, _, rfl⟩) (hb hby d1_196) ⟨rfl, e0⟩ (by decide) (by decide)
def f1_179 (p0 : Int32) : Int32 := (if p0 < (65536 : Int32) then (f1_195 p0) else (if (983039 : Int32) < p0 then (f1_195 p0) else (f1_191 p0)))
set_option maxRecDepth 65536 in
set_option maxHeartbeats 40000000 in
theorem g1_179 {p : Program} {l : Launch} {e : Env} {s : State} {m : MethodId} {below : List Frame} {meth : Method} {c : Code} {s₁ : State} {ws : List Jvm.Cond} {Z : State} {aw : Array Value} (hw : ∀ d ∈ tables_1, d.before aw Z = true) {h0 : Heap} (p0 : Int32)
    (Bd : BodyLoose p l (⟨"com/example/tsugiki/tsugiki/xml/XmlNames", "isNameStartChar", "(I)Z"⟩ : MethodName) (head1 (Jvm.Cond.code (⟨"com/example/tsugiki/tsugiki/xml/XmlNames", "isNameStartChar", "(I)Z"⟩ : MethodName) prog_63_method_3_code 1 (some .boolean) :: ws) ({ frames := 0, cells := 0, slots := 0, locals := 0 } : Room)) prog_63_method_3_code 1 (some .boolean) e s m #[(.int p0)] below meth c s₁) (hml : c.maxLocals = 1) (hZ : Z.Warmed39 s.vm) (T0 : State) (X0 : Stand p l e ({ frames := 0, cells := 0, slots := 0, locals := 0 } : Room) s m #[(.int p0)] below meth c T0 [] 0 0) (e0 : T0.heap = h0) :
    own_Go p e below s ({ frames := 0, cells := 0, slots := 0, locals := 0 } : Room).cells ({ frames := 0, cells := 0, slots := 0, locals := 0 } : Room).slots (some (.int (f1_179 p0))) (own_K0 h0) (T0.setTop (mkF m 179 #[.val (.int p0)] [])) := by
  have hx := Bd.exec
  have hby := Bd.bytes
  have hown : s.vm.findClass "com/example/tsugiki/tsugiki/xml/XmlNames" = some m.cls := findClass_of_methodNamed Bd.named
  unfold f1_179
  refine own_pre (F' := T0.setTop (mkF m 180 #[.val (.int p0)] [(.int p0)])) (fun _ k => XS.iloadN X0.here hx rfl (hb hby d1_179) rfl k) ?_
  refine own_pre (F' := T0.setTop (mkF m 182 #[.val (.int p0)] [(.int (65536 : Int32)), (.int p0)])) (fun _ k => X0.ldcInt hx hown (mvT hZ (hw _ (List.mem_of_getElem? (i := 15) rfl))) (g := (mkF m 180 #[.val (.int p0)] [(.int p0)])) rfl (hb hby d1_180) _ k) ?_
  refine own_iteI (fun hc182 => ?_) (fun hc182 => ?_)
  · skip
    refine own_pre (F' := T0.setTop (mkF m 195 #[.val (.int p0)] [])) (fun _ k => XS.icmpYes X0.here hx rfl (pc0 := 182) (pc' := 195) rfl (hb hby d1_182) rfl (tlt hc182).1 (by decide) (by decide) k) ?_
    exact g1_195 hw p0 Bd hml hZ T0 X0 e0
  · skip
    refine own_pre (F' := T0.setTop (mkF m 185 #[.val (.int p0)] [])) (fun _ k => XS.icmpNo X0.here hx rfl (hb hby d1_182) rfl (flt hc182).1 k) ?_
    refine own_pre (F' := T0.setTop (mkF m 186 #[.val (.int p0)] [(.int p0)])) (fun _ k => XS.iloadN X0.here hx rfl (hb hby d1_185) rfl k) ?_
    refine own_pre (F' := T0.setTop (mkF m 188 #[.val (.int p0)] [(.int (983039 : Int32)), (.int p0)])) (fun _ k => X0.ldcInt hx hown (mvT hZ (hw _ (List.mem_of_getElem? (i := 23) rfl))) (g := (mkF m 186 #[.val (.int p0)] [(.int p0)])) rfl (hb hby d1_186) _ k) ?_
    refine own_iteI (fun hc188 => ?_) (fun hc188 => ?_)
    · skip
      refine own_pre (F' := T0.setTop (mkF m 195 #[.val (.int p0)] [])) (fun _ k => XS.icmpYes X0.here hx rfl (pc0 := 188) (pc' := 195) rfl (hb hby d1_188) rfl (tlt hc188).2.2.1 (by decide) (by decide) k) ?_
      exact g1_195 hw p0 Bd hml hZ T0 X0 e0
    · skip
      refine own_pre (F' := T0.setTop (mkF m 191 #[.val (.int p0)] [])) (fun _ k => XS.icmpNo X0.here hx rfl (hb hby d1_188) rfl (flt hc188).2.2.1 k) ?_
      exact g1_191 hw p0 Bd hml hZ T0 X0 e0
def f1_167 (p0 : Int32) : Int32 := (if p0 < (65008 : Int32) then (f1_179 p0) else (if (65533 : Int32) < p0 then (f1_179 p0) else (f1_191 p0)))
set_option maxRecDepth 65536 in
set_option maxHeartbeats 40000000 in
theorem g1_167 {p : Program} {l : Launch} {e : Env} {s : State} {m : MethodId} {below : List Frame} {meth : Method} {c : Code} {s₁ : State} {ws : List Jvm.Cond} {Z : State} {aw : Array Value} (hw : ∀ d ∈ tables_1, d.before aw Z = true) {h0 : Heap} (p0 : Int32)
    (Bd : BodyLoose p l (⟨"com/example/tsugiki/tsugiki/xml/XmlNames", "isNameStartChar", "(I)Z"⟩ : MethodName) (head1 (Jvm.Cond.code (⟨"com/example/tsugiki/tsugiki/xml/XmlNames", "isNameStartChar", "(I)Z"⟩ : MethodName) prog_63_method_3_code 1 (some .boolean) :: ws) ({ frames := 0, cells := 0, slots := 0, locals := 0 } : Room)) prog_63_method_3_code 1 (some .boolean) e s m #[(.int p0)] below meth c s₁) (hml : c.maxLocals = 1) (hZ : Z.Warmed39 s.vm) (T0 : State) (X0 : Stand p l e ({ frames := 0, cells := 0, slots := 0, locals := 0 } : Room) s m #[(.int p0)] below meth c T0 [] 0 0) (e0 : T0.heap = h0) :
    own_Go p e below s ({ frames := 0, cells := 0, slots := 0, locals := 0 } : Room).cells ({ frames := 0, cells := 0, slots := 0, locals := 0 } : Room).slots (some (.int (f1_167 p0))) (own_K0 h0) (T0.setTop (mkF m 167 #[.val (.int p0)] [])) := by
  have hx := Bd.exec
  have hby := Bd.bytes
  have hown : s.vm.findClass "com/example/tsugiki/tsugiki/xml/XmlNames" = some m.cls := findClass_of_methodNamed Bd.named
  unfold f1_167
  refine own_pre (F' := T0.setTop (mkF m 168 #[.val (.int p0)] [(.int p0)])) (fun _ k => XS.iloadN X0.here hx rfl (hb hby d1_167) rfl k) ?_
  refine own_pre (F' := T0.setTop (mkF m 170 #[.val (.int p0)] [(.int (65008 : Int32)), (.int p0)])) (fun _ k => X0.ldcInt hx hown (mvT hZ (hw _ (List.mem_of_getElem? (i := 14) rfl))) (g := (mkF m 168 #[.val (.int p0)] [(.int p0)])) rfl (hb hby d1_168) _ k) ?_
  refine own_iteI (fun hc170 => ?_) (fun hc170 => ?_)
  · skip
    refine own_pre (F' := T0.setTop (mkF m 179 #[.val (.int p0)] [])) (fun _ k => XS.icmpYes X0.here hx rfl (pc0 := 170) (pc' := 179) rfl (hb hby d1_170) rfl (tlt hc170).1 (by decide) (by decide) k) ?_
    exact g1_179 hw p0 Bd hml hZ T0 X0 e0
  · skip
    refine own_pre (F' := T0.setTop (mkF m 173 #[.val (.int p0)] [])) (fun _ k => XS.icmpNo X0.here hx rfl (hb hby d1_170) rfl (flt hc170).1 k) ?_
    refine own_pre (F' := T0.setTop (mkF m 174 #[.val (.int p0)] [(.int p0)])) (fun _ k => XS.iloadN X0.here hx rfl (hb hby d1_173) rfl k) ?_
    refine own_pre (F' := T0.setTop (mkF m 176 #[.val (.int p0)] [(.int (65533 : Int32)), (.int p0)])) (fun _ k => X0.ldcInt hx hown (mvT hZ (hw _ (List.mem_of_getElem? (i := 22) rfl))) (g := (mkF m 174 #[.val (.int p0)] [(.int p0)])) rfl (hb hby d1_174) _ k) ?_
    refine own_iteI (fun hc176 => ?_) (fun hc176 => ?_)
    · skip
      refine own_pre (F' := T0.setTop (mkF m 179 #[.val (.int p0)] [])) (fun _ k => XS.icmpNo X0.here hx rfl (hb hby d1_176) rfl (tlt hc176).2.2.2 k) ?_
      exact g1_179 hw p0 Bd hml hZ T0 X0 e0
    · skip
      refine own_pre (F' := T0.setTop (mkF m 191 #[.val (.int p0)] [])) (fun _ k => XS.icmpYes X0.here hx rfl (pc0 := 176) (pc' := 191) rfl (hb hby d1_176) rfl (flt hc176).2.2.2 (by decide) (by decide) k) ?_
      exact g1_191 hw p0 Bd hml hZ T0 X0 e0
def f1_155 (p0 : Int32) : Int32 := (if p0 < (63744 : Int32) then (f1_167 p0) else (if (64975 : Int32) < p0 then (f1_167 p0) else (f1_191 p0)))
set_option maxRecDepth 65536 in
set_option maxHeartbeats 40000000 in
theorem g1_155 {p : Program} {l : Launch} {e : Env} {s : State} {m : MethodId} {below : List Frame} {meth : Method} {c : Code} {s₁ : State} {ws : List Jvm.Cond} {Z : State} {aw : Array Value} (hw : ∀ d ∈ tables_1, d.before aw Z = true) {h0 : Heap} (p0 : Int32)
    (Bd : BodyLoose p l (⟨"com/example/tsugiki/tsugiki/xml/XmlNames", "isNameStartChar", "(I)Z"⟩ : MethodName) (head1 (Jvm.Cond.code (⟨"com/example/tsugiki/tsugiki/xml/XmlNames", "isNameStartChar", "(I)Z"⟩ : MethodName) prog_63_method_3_code 1 (some .boolean) :: ws) ({ frames := 0, cells := 0, slots := 0, locals := 0 } : Room)) prog_63_method_3_code 1 (some .boolean) e s m #[(.int p0)] below meth c s₁) (hml : c.maxLocals = 1) (hZ : Z.Warmed39 s.vm) (T0 : State) (X0 : Stand p l e ({ frames := 0, cells := 0, slots := 0, locals := 0 } : Room) s m #[(.int p0)] below meth c T0 [] 0 0) (e0 : T0.heap = h0) :
    own_Go p e below s ({ frames := 0, cells := 0, slots := 0, locals := 0 } : Room).cells ({ frames := 0, cells := 0, slots := 0, locals := 0 } : Room).slots (some (.int (f1_155 p0))) (own_K0 h0) (T0.setTop (mkF m 155 #[.val (.int p0)] [])) := by
  have hx := Bd.exec
  have hby := Bd.bytes
  have hown : s.vm.findClass "com/example/tsugiki/tsugiki/xml/XmlNames" = some m.cls := findClass_of_methodNamed Bd.named
  unfold f1_155
  refine own_pre (F' := T0.setTop (mkF m 156 #[.val (.int p0)] [(.int p0)])) (fun _ k => XS.iloadN X0.here hx rfl (hb hby d1_155) rfl k) ?_
  refine own_pre (F' := T0.setTop (mkF m 158 #[.val (.int p0)] [(.int (63744 : Int32)), (.int p0)])) (fun _ k => X0.ldcInt hx hown (mvT hZ (hw _ (List.mem_of_getElem? (i := 13) rfl))) (g := (mkF m 156 #[.val (.int p0)] [(.int p0)])) rfl (hb hby d1_156) _ k) ?_
  refine own_iteI (fun hc158 => ?_) (fun hc158 => ?_)
  · skip
    refine own_pre (F' := T0.setTop (mkF m 167 #[.val (.int p0)] [])) (fun _ k => XS.icmpYes X0.here hx rfl (pc0 := 158) (pc' := 167) rfl (hb hby d1_158) rfl (tlt hc158).1 (by decide) (by decide) k) ?_
    exact g1_167 hw p0 Bd hml hZ T0 X0 e0
  · skip
    refine own_pre (F' := T0.setTop (mkF m 161 #[.val (.int p0)] [])) (fun _ k => XS.icmpNo X0.here hx rfl (hb hby d1_158) rfl (flt hc158).1 k) ?_
    refine own_pre (F' := T0.setTop (mkF m 162 #[.val (.int p0)] [(.int p0)])) (fun _ k => XS.iloadN X0.here hx rfl (hb hby d1_161) rfl k) ?_
    refine own_pre (F' := T0.setTop (mkF m 164 #[.val (.int p0)] [(.int (64975 : Int32)), (.int p0)])) (fun _ k => X0.ldcInt hx hown (mvT hZ (hw _ (List.mem_of_getElem? (i := 21) rfl))) (g := (mkF m 162 #[.val (.int p0)] [(.int p0)])) rfl (hb hby d1_162) _ k) ?_
    refine own_iteI (fun hc164 => ?_) (fun hc164 => ?_)
    · skip
      refine own_pre (F' := T0.setTop (mkF m 167 #[.val (.int p0)] [])) (fun _ k => XS.icmpNo X0.here hx rfl (hb hby d1_164) rfl (tlt hc164).2.2.2 k) ?_
      exact g1_167 hw p0 Bd hml hZ T0 X0 e0
    · skip
      refine own_pre (F' := T0.setTop (mkF m 191 #[.val (.int p0)] [])) (fun _ k => XS.icmpYes X0.here hx rfl (pc0 := 164) (pc' := 191) rfl (hb hby d1_164) rfl (flt hc164).2.2.2 (by decide) (by decide) k) ?_
      exact g1_191 hw p0 Bd hml hZ T0 X0 e0
def f1_142 (p0 : Int32) : Int32 := (if p0 < (12289 : Int32) then (f1_155 p0) else (if (55295 : Int32) < p0 then (f1_155 p0) else (f1_191 p0)))
set_option maxRecDepth 65536 in
set_option maxHeartbeats 40000000 in
theorem g1_142 {p : Program} {l : Launch} {e : Env} {s : State} {m : MethodId} {below : List Frame} {meth : Method} {c : Code} {s₁ : State} {ws : List Jvm.Cond} {Z : State} {aw : Array Value} (hw : ∀ d ∈ tables_1, d.before aw Z = true) {h0 : Heap} (p0 : Int32)
    (Bd : BodyLoose p l (⟨"com/example/tsugiki/tsugiki/xml/XmlNames", "isNameStartChar", "(I)Z"⟩ : MethodName) (head1 (Jvm.Cond.code (⟨"com/example/tsugiki/tsugiki/xml/XmlNames", "isNameStartChar", "(I)Z"⟩ : MethodName) prog_63_method_3_code 1 (some .boolean) :: ws) ({ frames := 0, cells := 0, slots := 0, locals := 0 } : Room)) prog_63_method_3_code 1 (some .boolean) e s m #[(.int p0)] below meth c s₁) (hml : c.maxLocals = 1) (hZ : Z.Warmed39 s.vm) (T0 : State) (X0 : Stand p l e ({ frames := 0, cells := 0, slots := 0, locals := 0 } : Room) s m #[(.int p0)] below meth c T0 [] 0 0) (e0 : T0.heap = h0) :
    own_Go p e below s ({ frames := 0, cells := 0, slots := 0, locals := 0 } : Room).cells ({ frames := 0, cells := 0, slots := 0, locals := 0 } : Room).slots (some (.int (f1_142 p0))) (own_K0 h0) (T0.setTop (mkF m 142 #[.val (.int p0)] [])) := by
  have hx := Bd.exec
  have hby := Bd.bytes
  have hown : s.vm.findClass "com/example/tsugiki/tsugiki/xml/XmlNames" = some m.cls := findClass_of_methodNamed Bd.named
  unfold f1_142
  refine own_pre (F' := T0.setTop (mkF m 143 #[.val (.int p0)] [(.int p0)])) (fun _ k => XS.iloadN X0.here hx rfl (hb hby d1_142) rfl k) ?_
  refine own_pre (F' := T0.setTop (mkF m 146 #[.val (.int p0)] [(.int (12289 : Int32)), (.int p0)])) (fun _ k => XS.sipush X0.here hx rfl (hb hby d1_143) k) ?_
  refine own_iteI (fun hc146 => ?_) (fun hc146 => ?_)
  · skip
    refine own_pre (F' := T0.setTop (mkF m 155 #[.val (.int p0)] [])) (fun _ k => XS.icmpYes X0.here hx rfl (pc0 := 146) (pc' := 155) rfl (hb hby d1_146) rfl (tlt hc146).1 (by decide) (by decide) k) ?_
    exact g1_155 hw p0 Bd hml hZ T0 X0 e0
  · skip
    refine own_pre (F' := T0.setTop (mkF m 149 #[.val (.int p0)] [])) (fun _ k => XS.icmpNo X0.here hx rfl (hb hby d1_146) rfl (flt hc146).1 k) ?_
    refine own_pre (F' := T0.setTop (mkF m 150 #[.val (.int p0)] [(.int p0)])) (fun _ k => XS.iloadN X0.here hx rfl (hb hby d1_149) rfl k) ?_
    refine own_pre (F' := T0.setTop (mkF m 152 #[.val (.int p0)] [(.int (55295 : Int32)), (.int p0)])) (fun _ k => X0.ldcInt hx hown (mvT hZ (hw _ (List.mem_of_getElem? (i := 20) rfl))) (g := (mkF m 150 #[.val (.int p0)] [(.int p0)])) rfl (hb hby d1_150) _ k) ?_
    refine own_iteI (fun hc152 => ?_) (fun hc152 => ?_)
    · skip
      refine own_pre (F' := T0.setTop (mkF m 155 #[.val (.int p0)] [])) (fun _ k => XS.icmpNo X0.here hx rfl (hb hby d1_152) rfl (tlt hc152).2.2.2 k) ?_
      exact g1_155 hw p0 Bd hml hZ T0 X0 e0
    · skip
      refine own_pre (F' := T0.setTop (mkF m 191 #[.val (.int p0)] [])) (fun _ k => XS.icmpYes X0.here hx rfl (pc0 := 152) (pc' := 191) rfl (hb hby d1_152) rfl (flt hc152).2.2.2 (by decide) (by decide) k) ?_
      exact g1_191 hw p0 Bd hml hZ T0 X0 e0
def f1_128 (p0 : Int32) : Int32 := (if p0 < (11264 : Int32) then (f1_142 p0) else (if (12271 : Int32) < p0 then (f1_142 p0) else (f1_191 p0)))
set_option maxRecDepth 65536 in
set_option maxHeartbeats 40000000 in
theorem g1_128 {p : Program} {l : Launch} {e : Env} {s : State} {m : MethodId} {below : List Frame} {meth : Method} {c : Code} {s₁ : State} {ws : List Jvm.Cond} {Z : State} {aw : Array Value} (hw : ∀ d ∈ tables_1, d.before aw Z = true) {h0 : Heap} (p0 : Int32)
    (Bd : BodyLoose p l (⟨"com/example/tsugiki/tsugiki/xml/XmlNames", "isNameStartChar", "(I)Z"⟩ : MethodName) (head1 (Jvm.Cond.code (⟨"com/example/tsugiki/tsugiki/xml/XmlNames", "isNameStartChar", "(I)Z"⟩ : MethodName) prog_63_method_3_code 1 (some .boolean) :: ws) ({ frames := 0, cells := 0, slots := 0, locals := 0 } : Room)) prog_63_method_3_code 1 (some .boolean) e s m #[(.int p0)] below meth c s₁) (hml : c.maxLocals = 1) (hZ : Z.Warmed39 s.vm) (T0 : State) (X0 : Stand p l e ({ frames := 0, cells := 0, slots := 0, locals := 0 } : Room) s m #[(.int p0)] below meth c T0 [] 0 0) (e0 : T0.heap = h0) :
    own_Go p e below s ({ frames := 0, cells := 0, slots := 0, locals := 0 } : Room).cells ({ frames := 0, cells := 0, slots := 0, locals := 0 } : Room).slots (some (.int (f1_128 p0))) (own_K0 h0) (T0.setTop (mkF m 128 #[.val (.int p0)] [])) := by
  have hx := Bd.exec
  have hby := Bd.bytes
  have hown : s.vm.findClass "com/example/tsugiki/tsugiki/xml/XmlNames" = some m.cls := findClass_of_methodNamed Bd.named
  unfold f1_128
  refine own_pre (F' := T0.setTop (mkF m 129 #[.val (.int p0)] [(.int p0)])) (fun _ k => XS.iloadN X0.here hx rfl (hb hby d1_128) rfl k) ?_
  refine own_pre (F' := T0.setTop (mkF m 132 #[.val (.int p0)] [(.int (11264 : Int32)), (.int p0)])) (fun _ k => XS.sipush X0.here hx rfl (hb hby d1_129) k) ?_
  refine own_iteI (fun hc132 => ?_) (fun hc132 => ?_)
  · skip
    refine own_pre (F' := T0.setTop (mkF m 142 #[.val (.int p0)] [])) (fun _ k => XS.icmpYes X0.here hx rfl (pc0 := 132) (pc' := 142) rfl (hb hby d1_132) rfl (tlt hc132).1 (by decide) (by decide) k) ?_
    exact g1_142 hw p0 Bd hml hZ T0 X0 e0
  · skip
    refine own_pre (F' := T0.setTop (mkF m 135 #[.val (.int p0)] [])) (fun _ k => XS.icmpNo X0.here hx rfl (hb hby d1_132) rfl (flt hc132).1 k) ?_
    refine own_pre (F' := T0.setTop (mkF m 136 #[.val (.int p0)] [(.int p0)])) (fun _ k => XS.iloadN X0.here hx rfl (hb hby d1_135) rfl k) ?_
    refine own_pre (F' := T0.setTop (mkF m 139 #[.val (.int p0)] [(.int (12271 : Int32)), (.int p0)])) (fun _ k => XS.sipush X0.here hx rfl (hb hby d1_136) k) ?_
    refine own_iteI (fun hc139 => ?_) (fun hc139 => ?_)
    · skip
      refine own_pre (F' := T0.setTop (mkF m 142 #[.val (.int p0)] [])) (fun _ k => XS.icmpNo X0.here hx rfl (hb hby d1_139) rfl (tlt hc139).2.2.2 k) ?_
      exact g1_142 hw p0 Bd hml hZ T0 X0 e0
    · skip
      refine own_pre (F' := T0.setTop (mkF m 191 #[.val (.int p0)] [])) (fun _ k => XS.icmpYes X0.here hx rfl (pc0 := 139) (pc' := 191) rfl (hb hby d1_139) rfl (flt hc139).2.2.2 (by decide) (by decide) k) ?_
      exact g1_191 hw p0 Bd hml hZ T0 X0 e0
def f1_114 (p0 : Int32) : Int32 := (if p0 < (8304 : Int32) then (f1_128 p0) else (if (8591 : Int32) < p0 then (f1_128 p0) else (f1_191 p0)))
set_option maxRecDepth 65536 in
set_option maxHeartbeats 40000000 in
theorem g1_114 {p : Program} {l : Launch} {e : Env} {s : State} {m : MethodId} {below : List Frame} {meth : Method} {c : Code} {s₁ : State} {ws : List Jvm.Cond} {Z : State} {aw : Array Value} (hw : ∀ d ∈ tables_1, d.before aw Z = true) {h0 : Heap} (p0 : Int32)
    (Bd : BodyLoose p l (⟨"com/example/tsugiki/tsugiki/xml/XmlNames", "isNameStartChar", "(I)Z"⟩ : MethodName) (head1 (Jvm.Cond.code (⟨"com/example/tsugiki/tsugiki/xml/XmlNames", "isNameStartChar", "(I)Z"⟩ : MethodName) prog_63_method_3_code 1 (some .boolean) :: ws) ({ frames := 0, cells := 0, slots := 0, locals := 0 } : Room)) prog_63_method_3_code 1 (some .boolean) e s m #[(.int p0)] below meth c s₁) (hml : c.maxLocals = 1) (hZ : Z.Warmed39 s.vm) (T0 : State) (X0 : Stand p l e ({ frames := 0, cells := 0, slots := 0, locals := 0 } : Room) s m #[(.int p0)] below meth c T0 [] 0 0) (e0 : T0.heap = h0) :
    own_Go p e below s ({ frames := 0, cells := 0, slots := 0, locals := 0 } : Room).cells ({ frames := 0, cells := 0, slots := 0, locals := 0 } : Room).slots (some (.int (f1_114 p0))) (own_K0 h0) (T0.setTop (mkF m 114 #[.val (.int p0)] [])) := by
  have hx := Bd.exec
  have hby := Bd.bytes
  have hown : s.vm.findClass "com/example/tsugiki/tsugiki/xml/XmlNames" = some m.cls := findClass_of_methodNamed Bd.named
  unfold f1_114
  refine own_pre (F' := T0.setTop (mkF m 115 #[.val (.int p0)] [(.int p0)])) (fun _ k => XS.iloadN X0.here hx rfl (hb hby d1_114) rfl k) ?_
  refine own_pre (F' := T0.setTop (mkF m 118 #[.val (.int p0)] [(.int (8304 : Int32)), (.int p0)])) (fun _ k => XS.sipush X0.here hx rfl (hb hby d1_115) k) ?_
  refine own_iteI (fun hc118 => ?_) (fun hc118 => ?_)
  · skip
    refine own_pre (F' := T0.setTop (mkF m 128 #[.val (.int p0)] [])) (fun _ k => XS.icmpYes X0.here hx rfl (pc0 := 118) (pc' := 128) rfl (hb hby d1_118) rfl (tlt hc118).1 (by decide) (by decide) k) ?_
    exact g1_128 hw p0 Bd hml hZ T0 X0 e0
  · skip
    refine own_pre (F' := T0.setTop (mkF m 121 #[.val (.int p0)] [])) (fun _ k => XS.icmpNo X0.here hx rfl (hb hby d1_118) rfl (flt hc118).1 k) ?_
    refine own_pre (F' := T0.setTop (mkF m 122 #[.val (.int p0)] [(.int p0)])) (fun _ k => XS.iloadN X0.here hx rfl (hb hby d1_121) rfl k) ?_
    refine own_pre (F' := T0.setTop (mkF m 125 #[.val (.int p0)] [(.int (8591 : Int32)), (.int p0)])) (fun _ k => XS.sipush X0.here hx rfl (hb hby d1_122) k) ?_
    refine own_iteI (fun hc125 => ?_) (fun hc125 => ?_)
    · skip
      refine own_pre (F' := T0.setTop (mkF m 128 #[.val (.int p0)] [])) (fun _ k => XS.icmpNo X0.here hx rfl (hb hby d1_125) rfl (tlt hc125).2.2.2 k) ?_
      exact g1_128 hw p0 Bd hml hZ T0 X0 e0
    · skip
      refine own_pre (F' := T0.setTop (mkF m 191 #[.val (.int p0)] [])) (fun _ k => XS.icmpYes X0.here hx rfl (pc0 := 125) (pc' := 191) rfl (hb hby d1_125) rfl (flt hc125).2.2.2 (by decide) (by decide) k) ?_
      exact g1_191 hw p0 Bd hml hZ T0 X0 e0
def f1_100 (p0 : Int32) : Int32 := (if p0 < (8204 : Int32) then (f1_114 p0) else (if (8205 : Int32) < p0 then (f1_114 p0) else (f1_191 p0)))
set_option maxRecDepth 65536 in
set_option maxHeartbeats 40000000 in
theorem g1_100 {p : Program} {l : Launch} {e : Env} {s : State} {m : MethodId} {below : List Frame} {meth : Method} {c : Code} {s₁ : State} {ws : List Jvm.Cond} {Z : State} {aw : Array Value} (hw : ∀ d ∈ tables_1, d.before aw Z = true) {h0 : Heap} (p0 : Int32)
    (Bd : BodyLoose p l (⟨"com/example/tsugiki/tsugiki/xml/XmlNames", "isNameStartChar", "(I)Z"⟩ : MethodName) (head1 (Jvm.Cond.code (⟨"com/example/tsugiki/tsugiki/xml/XmlNames", "isNameStartChar", "(I)Z"⟩ : MethodName) prog_63_method_3_code 1 (some .boolean) :: ws) ({ frames := 0, cells := 0, slots := 0, locals := 0 } : Room)) prog_63_method_3_code 1 (some .boolean) e s m #[(.int p0)] below meth c s₁) (hml : c.maxLocals = 1) (hZ : Z.Warmed39 s.vm) (T0 : State) (X0 : Stand p l e ({ frames := 0, cells := 0, slots := 0, locals := 0 } : Room) s m #[(.int p0)] below meth c T0 [] 0 0) (e0 : T0.heap = h0) :
    own_Go p e below s ({ frames := 0, cells := 0, slots := 0, locals := 0 } : Room).cells ({ frames := 0, cells := 0, slots := 0, locals := 0 } : Room).slots (some (.int (f1_100 p0))) (own_K0 h0) (T0.setTop (mkF m 100 #[.val (.int p0)] [])) := by
  have hx := Bd.exec
  have hby := Bd.bytes
  have hown : s.vm.findClass "com/example/tsugiki/tsugiki/xml/XmlNames" = some m.cls := findClass_of_methodNamed Bd.named
  unfold f1_100
  refine own_pre (F' := T0.setTop (mkF m 101 #[.val (.int p0)] [(.int p0)])) (fun _ k => XS.iloadN X0.here hx rfl (hb hby d1_100) rfl k) ?_
  refine own_pre (F' := T0.setTop (mkF m 104 #[.val (.int p0)] [(.int (8204 : Int32)), (.int p0)])) (fun _ k => XS.sipush X0.here hx rfl (hb hby d1_101) k) ?_
  refine own_iteI (fun hc104 => ?_) (fun hc104 => ?_)
  · skip
    refine own_pre (F' := T0.setTop (mkF m 114 #[.val (.int p0)] [])) (fun _ k => XS.icmpYes X0.here hx rfl (pc0 := 104) (pc' := 114) rfl (hb hby d1_104) rfl (tlt hc104).1 (by decide) (by decide) k) ?_
    exact g1_114 hw p0 Bd hml hZ T0 X0 e0
  · skip
    refine own_pre (F' := T0.setTop (mkF m 107 #[.val (.int p0)] [])) (fun _ k => XS.icmpNo X0.here hx rfl (hb hby d1_104) rfl (flt hc104).1 k) ?_
    refine own_pre (F' := T0.setTop (mkF m 108 #[.val (.int p0)] [(.int p0)])) (fun _ k => XS.iloadN X0.here hx rfl (hb hby d1_107) rfl k) ?_
    refine own_pre (F' := T0.setTop (mkF m 111 #[.val (.int p0)] [(.int (8205 : Int32)), (.int p0)])) (fun _ k => XS.sipush X0.here hx rfl (hb hby d1_108) k) ?_
    refine own_iteI (fun hc111 => ?_) (fun hc111 => ?_)
    · skip
      refine own_pre (F' := T0.setTop (mkF m 114 #[.val (.int p0)] [])) (fun _ k => XS.icmpNo X0.here hx rfl (hb hby d1_111) rfl (tlt hc111).2.2.2 k) ?_
      exact g1_114 hw p0 Bd hml hZ T0 X0 e0
    · skip
      refine own_pre (F' := T0.setTop (mkF m 191 #[.val (.int p0)] [])) (fun _ k => XS.icmpYes X0.here hx rfl (pc0 := 111) (pc' := 191) rfl (hb hby d1_111) rfl (flt hc111).2.2.2 (by decide) (by decide) k) ?_
      exact g1_191 hw p0 Bd hml hZ T0 X0 e0
def f1_86 (p0 : Int32) : Int32 := (if p0 < (895 : Int32) then (f1_100 p0) else (if (8191 : Int32) < p0 then (f1_100 p0) else (f1_191 p0)))
set_option maxRecDepth 65536 in
set_option maxHeartbeats 40000000 in
theorem g1_86 {p : Program} {l : Launch} {e : Env} {s : State} {m : MethodId} {below : List Frame} {meth : Method} {c : Code} {s₁ : State} {ws : List Jvm.Cond} {Z : State} {aw : Array Value} (hw : ∀ d ∈ tables_1, d.before aw Z = true) {h0 : Heap} (p0 : Int32)
    (Bd : BodyLoose p l (⟨"com/example/tsugiki/tsugiki/xml/XmlNames", "isNameStartChar", "(I)Z"⟩ : MethodName) (head1 (Jvm.Cond.code (⟨"com/example/tsugiki/tsugiki/xml/XmlNames", "isNameStartChar", "(I)Z"⟩ : MethodName) prog_63_method_3_code 1 (some .boolean) :: ws) ({ frames := 0, cells := 0, slots := 0, locals := 0 } : Room)) prog_63_method_3_code 1 (some .boolean) e s m #[(.int p0)] below meth c s₁) (hml : c.maxLocals = 1) (hZ : Z.Warmed39 s.vm) (T0 : State) (X0 : Stand p l e ({ frames := 0, cells := 0, slots := 0, locals := 0 } : Room) s m #[(.int p0)] below meth c T0 [] 0 0) (e0 : T0.heap = h0) :
    own_Go p e below s ({ frames := 0, cells := 0, slots := 0, locals := 0 } : Room).cells ({ frames := 0, cells := 0, slots := 0, locals := 0 } : Room).slots (some (.int (f1_86 p0))) (own_K0 h0) (T0.setTop (mkF m 86 #[.val (.int p0)] [])) := by
  have hx := Bd.exec
  have hby := Bd.bytes
  have hown : s.vm.findClass "com/example/tsugiki/tsugiki/xml/XmlNames" = some m.cls := findClass_of_methodNamed Bd.named
  unfold f1_86
  refine own_pre (F' := T0.setTop (mkF m 87 #[.val (.int p0)] [(.int p0)])) (fun _ k => XS.iloadN X0.here hx rfl (hb hby d1_86) rfl k) ?_
  refine own_pre (F' := T0.setTop (mkF m 90 #[.val (.int p0)] [(.int (895 : Int32)), (.int p0)])) (fun _ k => XS.sipush X0.here hx rfl (hb hby d1_87) k) ?_
  refine own_iteI (fun hc90 => ?_) (fun hc90 => ?_)
  · skip
    refine own_pre (F' := T0.setTop (mkF m 100 #[.val (.int p0)] [])) (fun _ k => XS.icmpYes X0.here hx rfl (pc0 := 90) (pc' := 100) rfl (hb hby d1_90) rfl (tlt hc90).1 (by decide) (by decide) k) ?_
    exact g1_100 hw p0 Bd hml hZ T0 X0 e0
  · skip
    refine own_pre (F' := T0.setTop (mkF m 93 #[.val (.int p0)] [])) (fun _ k => XS.icmpNo X0.here hx rfl (hb hby d1_90) rfl (flt hc90).1 k) ?_
    refine own_pre (F' := T0.setTop (mkF m 94 #[.val (.int p0)] [(.int p0)])) (fun _ k => XS.iloadN X0.here hx rfl (hb hby d1_93) rfl k) ?_
    refine own_pre (F' := T0.setTop (mkF m 97 #[.val (.int p0)] [(.int (8191 : Int32)), (.int p0)])) (fun _ k => XS.sipush X0.here hx rfl (hb hby d1_94) k) ?_
    refine own_iteI (fun hc97 => ?_) (fun hc97 => ?_)
    · skip
      refine own_pre (F' := T0.setTop (mkF m 100 #[.val (.int p0)] [])) (fun _ k => XS.icmpNo X0.here hx rfl (hb hby d1_97) rfl (tlt hc97).2.2.2 k) ?_
      exact g1_100 hw p0 Bd hml hZ T0 X0 e0
    · skip
      refine own_pre (F' := T0.setTop (mkF m 191 #[.val (.int p0)] [])) (fun _ k => XS.icmpYes X0.here hx rfl (pc0 := 97) (pc' := 191) rfl (hb hby d1_97) rfl (flt hc97).2.2.2 (by decide) (by decide) k) ?_
      exact g1_191 hw p0 Bd hml hZ T0 X0 e0
def f1_72 (p0 : Int32) : Int32 := (if p0 < (880 : Int32) then (f1_86 p0) else (if (893 : Int32) < p0 then (f1_86 p0) else (f1_191 p0)))
set_option maxRecDepth 65536 in
set_option maxHeartbeats 40000000 in
theorem g1_72 {p : Program} {l : Launch} {e : Env} {s : State} {m : MethodId} {below : List Frame} {meth : Method} {c : Code} {s₁ : State} {ws : List Jvm.Cond} {Z : State} {aw : Array Value} (hw : ∀ d ∈ tables_1, d.before aw Z = true) {h0 : Heap} (p0 : Int32)
    (Bd : BodyLoose p l (⟨"com/example/tsugiki/tsugiki/xml/XmlNames", "isNameStartChar", "(I)Z"⟩ : MethodName) (head1 (Jvm.Cond.code (⟨"com/example/tsugiki/tsugiki/xml/XmlNames", "isNameStartChar", "(I)Z"⟩ : MethodName) prog_63_method_3_code 1 (some .boolean) :: ws) ({ frames := 0, cells := 0, slots := 0, locals := 0 } : Room)) prog_63_method_3_code 1 (some .boolean) e s m #[(.int p0)] below meth c s₁) (hml : c.maxLocals = 1) (hZ : Z.Warmed39 s.vm) (T0 : State) (X0 : Stand p l e ({ frames := 0, cells := 0, slots := 0, locals := 0 } : Room) s m #[(.int p0)] below meth c T0 [] 0 0) (e0 : T0.heap = h0) :
    own_Go p e below s ({ frames := 0, cells := 0, slots := 0, locals := 0 } : Room).cells ({ frames := 0, cells := 0, slots := 0, locals := 0 } : Room).slots (some (.int (f1_72 p0))) (own_K0 h0) (T0.setTop (mkF m 72 #[.val (.int p0)] [])) := by
  have hx := Bd.exec
  have hby := Bd.bytes
  have hown : s.vm.findClass "com/example/tsugiki/tsugiki/xml/XmlNames" = some m.cls := findClass_of_methodNamed Bd.named
  unfold f1_72
  refine own_pre (F' := T0.setTop (mkF m 73 #[.val (.int p0)] [(.int p0)])) (fun _ k => XS.iloadN X0.here hx rfl (hb hby d1_72) rfl k) ?_
  refine own_pre (F' := T0.setTop (mkF m 76 #[.val (.int p0)] [(.int (880 : Int32)), (.int p0)])) (fun _ k => XS.sipush X0.here hx rfl (hb hby d1_73) k) ?_
  refine own_iteI (fun hc76 => ?_) (fun hc76 => ?_)
  · skip
    refine own_pre (F' := T0.setTop (mkF m 86 #[.val (.int p0)] [])) (fun _ k => XS.icmpYes X0.here hx rfl (pc0 := 76) (pc' := 86) rfl (hb hby d1_76) rfl (tlt hc76).1 (by decide) (by decide) k) ?_
    exact g1_86 hw p0 Bd hml hZ T0 X0 e0
  · skip
    refine own_pre (F' := T0.setTop (mkF m 79 #[.val (.int p0)] [])) (fun _ k => XS.icmpNo X0.here hx rfl (hb hby d1_76) rfl (flt hc76).1 k) ?_
    refine own_pre (F' := T0.setTop (mkF m 80 #[.val (.int p0)] [(.int p0)])) (fun _ k => XS.iloadN X0.here hx rfl (hb hby d1_79) rfl k) ?_
    refine own_pre (F' := T0.setTop (mkF m 83 #[.val (.int p0)] [(.int (893 : Int32)), (.int p0)])) (fun _ k => XS.sipush X0.here hx rfl (hb hby d1_80) k) ?_
    refine own_iteI (fun hc83 => ?_) (fun hc83 => ?_)
    · skip
      refine own_pre (F' := T0.setTop (mkF m 86 #[.val (.int p0)] [])) (fun _ k => XS.icmpNo X0.here hx rfl (hb hby d1_83) rfl (tlt hc83).2.2.2 k) ?_
      exact g1_86 hw p0 Bd hml hZ T0 X0 e0
    · skip
      refine own_pre (F' := T0.setTop (mkF m 191 #[.val (.int p0)] [])) (fun _ k => XS.icmpYes X0.here hx rfl (pc0 := 83) (pc' := 191) rfl (hb hby d1_83) rfl (flt hc83).2.2.2 (by decide) (by decide) k) ?_
      exact g1_191 hw p0 Bd hml hZ T0 X0 e0
def f1_58 (p0 : Int32) : Int32 := (if p0 < (248 : Int32) then (f1_72 p0) else (if (767 : Int32) < p0 then (f1_72 p0) else (f1_191 p0)))
set_option maxRecDepth 65536 in
set_option maxHeartbeats 40000000 in
theorem g1_58 {p : Program} {l : Launch} {e : Env} {s : State} {m : MethodId} {below : List Frame} {meth : Method} {c : Code} {s₁ : State} {ws : List Jvm.Cond} {Z : State} {aw : Array Value} (hw : ∀ d ∈ tables_1, d.before aw Z = true) {h0 : Heap} (p0 : Int32)
    (Bd : BodyLoose p l (⟨"com/example/tsugiki/tsugiki/xml/XmlNames", "isNameStartChar", "(I)Z"⟩ : MethodName) (head1 (Jvm.Cond.code (⟨"com/example/tsugiki/tsugiki/xml/XmlNames", "isNameStartChar", "(I)Z"⟩ : MethodName) prog_63_method_3_code 1 (some .boolean) :: ws) ({ frames := 0, cells := 0, slots := 0, locals := 0 } : Room)) prog_63_method_3_code 1 (some .boolean) e s m #[(.int p0)] below meth c s₁) (hml : c.maxLocals = 1) (hZ : Z.Warmed39 s.vm) (T0 : State) (X0 : Stand p l e ({ frames := 0, cells := 0, slots := 0, locals := 0 } : Room) s m #[(.int p0)] below meth c T0 [] 0 0) (e0 : T0.heap = h0) :
    own_Go p e below s ({ frames := 0, cells := 0, slots := 0, locals := 0 } : Room).cells ({ frames := 0, cells := 0, slots := 0, locals := 0 } : Room).slots (some (.int (f1_58 p0))) (own_K0 h0) (T0.setTop (mkF m 58 #[.val (.int p0)] [])) := by
  have hx := Bd.exec
  have hby := Bd.bytes
  have hown : s.vm.findClass "com/example/tsugiki/tsugiki/xml/XmlNames" = some m.cls := findClass_of_methodNamed Bd.named
  unfold f1_58
  refine own_pre (F' := T0.setTop (mkF m 59 #[.val (.int p0)] [(.int p0)])) (fun _ k => XS.iloadN X0.here hx rfl (hb hby d1_58) rfl k) ?_
  refine own_pre (F' := T0.setTop (mkF m 62 #[.val (.int p0)] [(.int (248 : Int32)), (.int p0)])) (fun _ k => XS.sipush X0.here hx rfl (hb hby d1_59) k) ?_
  refine own_iteI (fun hc62 => ?_) (fun hc62 => ?_)
  · skip
    refine own_pre (F' := T0.setTop (mkF m 72 #[.val (.int p0)] [])) (fun _ k => XS.icmpYes X0.here hx rfl (pc0 := 62) (pc' := 72) rfl (hb hby d1_62) rfl (tlt hc62).1 (by decide) (by decide) k) ?_
    exact g1_72 hw p0 Bd hml hZ T0 X0 e0
  · skip
    refine own_pre (F' := T0.setTop (mkF m 65 #[.val (.int p0)] [])) (fun _ k => XS.icmpNo X0.here hx rfl (hb hby d1_62) rfl (flt hc62).1 k) ?_
    refine own_pre (F' := T0.setTop (mkF m 66 #[.val (.int p0)] [(.int p0)])) (fun _ k => XS.iloadN X0.here hx rfl (hb hby d1_65) rfl k) ?_
    refine own_pre (F' := T0.setTop (mkF m 69 #[.val (.int p0)] [(.int (767 : Int32)), (.int p0)])) (fun _ k => XS.sipush X0.here hx rfl (hb hby d1_66) k) ?_
    refine own_iteI (fun hc69 => ?_) (fun hc69 => ?_)
    · skip
      refine own_pre (F' := T0.setTop (mkF m 72 #[.val (.int p0)] [])) (fun _ k => XS.icmpNo X0.here hx rfl (hb hby d1_69) rfl (tlt hc69).2.2.2 k) ?_
      exact g1_72 hw p0 Bd hml hZ T0 X0 e0
    · skip
      refine own_pre (F' := T0.setTop (mkF m 191 #[.val (.int p0)] [])) (fun _ k => XS.icmpYes X0.here hx rfl (pc0 := 69) (pc' := 191) rfl (hb hby d1_69) rfl (flt hc69).2.2.2 (by decide) (by decide) k) ?_
      exact g1_191 hw p0 Bd hml hZ T0 X0 e0
def f1_44 (p0 : Int32) : Int32 := (if p0 < (216 : Int32) then (f1_58 p0) else (if (246 : Int32) < p0 then (f1_58 p0) else (f1_191 p0)))
set_option maxRecDepth 65536 in
set_option maxHeartbeats 40000000 in
theorem g1_44 {p : Program} {l : Launch} {e : Env} {s : State} {m : MethodId} {below : List Frame} {meth : Method} {c : Code} {s₁ : State} {ws : List Jvm.Cond} {Z : State} {aw : Array Value} (hw : ∀ d ∈ tables_1, d.before aw Z = true) {h0 : Heap} (p0 : Int32)
    (Bd : BodyLoose p l (⟨"com/example/tsugiki/tsugiki/xml/XmlNames", "isNameStartChar", "(I)Z"⟩ : MethodName) (head1 (Jvm.Cond.code (⟨"com/example/tsugiki/tsugiki/xml/XmlNames", "isNameStartChar", "(I)Z"⟩ : MethodName) prog_63_method_3_code 1 (some .boolean) :: ws) ({ frames := 0, cells := 0, slots := 0, locals := 0 } : Room)) prog_63_method_3_code 1 (some .boolean) e s m #[(.int p0)] below meth c s₁) (hml : c.maxLocals = 1) (hZ : Z.Warmed39 s.vm) (T0 : State) (X0 : Stand p l e ({ frames := 0, cells := 0, slots := 0, locals := 0 } : Room) s m #[(.int p0)] below meth c T0 [] 0 0) (e0 : T0.heap = h0) :
    own_Go p e below s ({ frames := 0, cells := 0, slots := 0, locals := 0 } : Room).cells ({ frames := 0, cells := 0, slots := 0, locals := 0 } : Room).slots (some (.int (f1_44 p0))) (own_K0 h0) (T0.setTop (mkF m 44 #[.val (.int p0)] [])) := by
  have hx := Bd.exec
  have hby := Bd.bytes
  have hown : s.vm.findClass "com/example/tsugiki/tsugiki/xml/XmlNames" = some m.cls := findClass_of_methodNamed Bd.named
  unfold f1_44
  refine own_pre (F' := T0.setTop (mkF m 45 #[.val (.int p0)] [(.int p0)])) (fun _ k => XS.iloadN X0.here hx rfl (hb hby d1_44) rfl k) ?_
  refine own_pre (F' := T0.setTop (mkF m 48 #[.val (.int p0)] [(.int (216 : Int32)), (.int p0)])) (fun _ k => XS.sipush X0.here hx rfl (hb hby d1_45) k) ?_
  refine own_iteI (fun hc48 => ?_) (fun hc48 => ?_)
  · skip
    refine own_pre (F' := T0.setTop (mkF m 58 #[.val (.int p0)] [])) (fun _ k => XS.icmpYes X0.here hx rfl (pc0 := 48) (pc' := 58) rfl (hb hby d1_48) rfl (tlt hc48).1 (by decide) (by decide) k) ?_
    exact g1_58 hw p0 Bd hml hZ T0 X0 e0
  · skip
    refine own_pre (F' := T0.setTop (mkF m 51 #[.val (.int p0)] [])) (fun _ k => XS.icmpNo X0.here hx rfl (hb hby d1_48) rfl (flt hc48).1 k) ?_
    refine own_pre (F' := T0.setTop (mkF m 52 #[.val (.int p0)] [(.int p0)])) (fun _ k => XS.iloadN X0.here hx rfl (hb hby d1_51) rfl k) ?_
    refine own_pre (F' := T0.setTop (mkF m 55 #[.val (.int p0)] [(.int (246 : Int32)), (.int p0)])) (fun _ k => XS.sipush X0.here hx rfl (hb hby d1_52) k) ?_
    refine own_iteI (fun hc55 => ?_) (fun hc55 => ?_)
    · skip
      refine own_pre (F' := T0.setTop (mkF m 58 #[.val (.int p0)] [])) (fun _ k => XS.icmpNo X0.here hx rfl (hb hby d1_55) rfl (tlt hc55).2.2.2 k) ?_
      exact g1_58 hw p0 Bd hml hZ T0 X0 e0
    · skip
      refine own_pre (F' := T0.setTop (mkF m 191 #[.val (.int p0)] [])) (fun _ k => XS.icmpYes X0.here hx rfl (pc0 := 55) (pc' := 191) rfl (hb hby d1_55) rfl (flt hc55).2.2.2 (by decide) (by decide) k) ?_
      exact g1_191 hw p0 Bd hml hZ T0 X0 e0
def f1_30 (p0 : Int32) : Int32 := (if p0 < (192 : Int32) then (f1_44 p0) else (if (214 : Int32) < p0 then (f1_44 p0) else (f1_191 p0)))
set_option maxRecDepth 65536 in
set_option maxHeartbeats 40000000 in
theorem g1_30 {p : Program} {l : Launch} {e : Env} {s : State} {m : MethodId} {below : List Frame} {meth : Method} {c : Code} {s₁ : State} {ws : List Jvm.Cond} {Z : State} {aw : Array Value} (hw : ∀ d ∈ tables_1, d.before aw Z = true) {h0 : Heap} (p0 : Int32)
    (Bd : BodyLoose p l (⟨"com/example/tsugiki/tsugiki/xml/XmlNames", "isNameStartChar", "(I)Z"⟩ : MethodName) (head1 (Jvm.Cond.code (⟨"com/example/tsugiki/tsugiki/xml/XmlNames", "isNameStartChar", "(I)Z"⟩ : MethodName) prog_63_method_3_code 1 (some .boolean) :: ws) ({ frames := 0, cells := 0, slots := 0, locals := 0 } : Room)) prog_63_method_3_code 1 (some .boolean) e s m #[(.int p0)] below meth c s₁) (hml : c.maxLocals = 1) (hZ : Z.Warmed39 s.vm) (T0 : State) (X0 : Stand p l e ({ frames := 0, cells := 0, slots := 0, locals := 0 } : Room) s m #[(.int p0)] below meth c T0 [] 0 0) (e0 : T0.heap = h0) :
    own_Go p e below s ({ frames := 0, cells := 0, slots := 0, locals := 0 } : Room).cells ({ frames := 0, cells := 0, slots := 0, locals := 0 } : Room).slots (some (.int (f1_30 p0))) (own_K0 h0) (T0.setTop (mkF m 30 #[.val (.int p0)] [])) := by
  have hx := Bd.exec
  have hby := Bd.bytes
  have hown : s.vm.findClass "com/example/tsugiki/tsugiki/xml/XmlNames" = some m.cls := findClass_of_methodNamed Bd.named
  unfold f1_30
  refine own_pre (F' := T0.setTop (mkF m 31 #[.val (.int p0)] [(.int p0)])) (fun _ k => XS.iloadN X0.here hx rfl (hb hby d1_30) rfl k) ?_
  refine own_pre (F' := T0.setTop (mkF m 34 #[.val (.int p0)] [(.int (192 : Int32)), (.int p0)])) (fun _ k => XS.sipush X0.here hx rfl (hb hby d1_31) k) ?_
  refine own_iteI (fun hc34 => ?_) (fun hc34 => ?_)
  · skip
    refine own_pre (F' := T0.setTop (mkF m 44 #[.val (.int p0)] [])) (fun _ k => XS.icmpYes X0.here hx rfl (pc0 := 34) (pc' := 44) rfl (hb hby d1_34) rfl (tlt hc34).1 (by decide) (by decide) k) ?_
    exact g1_44 hw p0 Bd hml hZ T0 X0 e0
  · skip
    refine own_pre (F' := T0.setTop (mkF m 37 #[.val (.int p0)] [])) (fun _ k => XS.icmpNo X0.here hx rfl (hb hby d1_34) rfl (flt hc34).1 k) ?_
    refine own_pre (F' := T0.setTop (mkF m 38 #[.val (.int p0)] [(.int p0)])) (fun _ k => XS.iloadN X0.here hx rfl (hb hby d1_37) rfl k) ?_
    refine own_pre (F' := T0.setTop (mkF m 41 #[.val (.int p0)] [(.int (214 : Int32)), (.int p0)])) (fun _ k => XS.sipush X0.here hx rfl (hb hby d1_38) k) ?_
    refine own_iteI (fun hc41 => ?_) (fun hc41 => ?_)
    · skip
      refine own_pre (F' := T0.setTop (mkF m 44 #[.val (.int p0)] [])) (fun _ k => XS.icmpNo X0.here hx rfl (hb hby d1_41) rfl (tlt hc41).2.2.2 k) ?_
      exact g1_44 hw p0 Bd hml hZ T0 X0 e0
    · skip
      refine own_pre (F' := T0.setTop (mkF m 191 #[.val (.int p0)] [])) (fun _ k => XS.icmpYes X0.here hx rfl (pc0 := 41) (pc' := 191) rfl (hb hby d1_41) rfl (flt hc41).2.2.2 (by decide) (by decide) k) ?_
      exact g1_191 hw p0 Bd hml hZ T0 X0 e0
def f1_12 (p0 : Int32) : Int32 := (if p0 = (95 : Int32) then (f1_191 p0) else (if p0 < (97 : Int32) then (f1_30 p0) else (if (122 : Int32) < p0 then (f1_30 p0) else (f1_191 p0))))
set_option maxRecDepth 65536 in
set_option maxHeartbeats 40000000 in
theorem g1_12 {p : Program} {l : Launch} {e : Env} {s : State} {m : MethodId} {below : List Frame} {meth : Method} {c : Code} {s₁ : State} {ws : List Jvm.Cond} {Z : State} {aw : Array Value} (hw : ∀ d ∈ tables_1, d.before aw Z = true) {h0 : Heap} (p0 : Int32)
    (Bd : BodyLoose p l (⟨"com/example/tsugiki/tsugiki/xml/XmlNames", "isNameStartChar", "(I)Z"⟩ : MethodName) (head1 (Jvm.Cond.code (⟨"com/example/tsugiki/tsugiki/xml/XmlNames", "isNameStartChar", "(I)Z"⟩ : MethodName) prog_63_method_3_code 1 (some .boolean) :: ws) ({ frames := 0, cells := 0, slots := 0, locals := 0 } : Room)) prog_63_method_3_code 1 (some .boolean) e s m #[(.int p0)] below meth c s₁) (hml : c.maxLocals = 1) (hZ : Z.Warmed39 s.vm) (T0 : State) (X0 : Stand p l e ({ frames := 0, cells := 0, slots := 0, locals := 0 } : Room) s m #[(.int p0)] below meth c T0 [] 0 0) (e0 : T0.heap = h0) :
    own_Go p e below s ({ frames := 0, cells := 0, slots := 0, locals := 0 } : Room).cells ({ frames := 0, cells := 0, slots := 0, locals := 0 } : Room).slots (some (.int (f1_12 p0))) (own_K0 h0) (T0.setTop (mkF m 12 #[.val (.int p0)] [])) := by
  have hx := Bd.exec
  have hby := Bd.bytes
  have hown : s.vm.findClass "com/example/tsugiki/tsugiki/xml/XmlNames" = some m.cls := findClass_of_methodNamed Bd.named
  unfold f1_12
  refine own_pre (F' := T0.setTop (mkF m 13 #[.val (.int p0)] [(.int p0)])) (fun _ k => XS.iloadN X0.here hx rfl (hb hby d1_12) rfl k) ?_
  refine own_pre (F' := T0.setTop (mkF m 15 #[.val (.int p0)] [(.int (95 : Int32)), (.int p0)])) (fun _ k => XS.bipush X0.here hx rfl (hb hby d1_13) k) ?_
  refine own_iteI (fun hc15 => ?_) (fun hc15 => ?_)
  · skip
    refine own_pre (F' := T0.setTop (mkF m 191 #[.val (.int p0)] [])) (fun _ k => XS.icmpYes X0.here hx rfl (pc0 := 15) (pc' := 191) rfl (hb hby d1_15) rfl (teq hc15).1 (by decide) (by decide) k) ?_
    exact g1_191 hw p0 Bd hml hZ T0 X0 e0
  · skip
    refine own_pre (F' := T0.setTop (mkF m 18 #[.val (.int p0)] [])) (fun _ k => XS.icmpNo X0.here hx rfl (hb hby d1_15) rfl (feq hc15).1 k) ?_
    refine own_pre (F' := T0.setTop (mkF m 19 #[.val (.int p0)] [(.int p0)])) (fun _ k => XS.iloadN X0.here hx rfl (hb hby d1_18) rfl k) ?_
    refine own_pre (F' := T0.setTop (mkF m 21 #[.val (.int p0)] [(.int (97 : Int32)), (.int p0)])) (fun _ k => XS.bipush X0.here hx rfl (hb hby d1_19) k) ?_
    refine own_iteI (fun hc21 => ?_) (fun hc21 => ?_)
    · skip
      refine own_pre (F' := T0.setTop (mkF m 30 #[.val (.int p0)] [])) (fun _ k => XS.icmpYes X0.here hx rfl (pc0 := 21) (pc' := 30) rfl (hb hby d1_21) rfl (tlt hc21).1 (by decide) (by decide) k) ?_
      exact g1_30 hw p0 Bd hml hZ T0 X0 e0
    · skip
      refine own_pre (F' := T0.setTop (mkF m 24 #[.val (.int p0)] [])) (fun _ k => XS.icmpNo X0.here hx rfl (hb hby d1_21) rfl (flt hc21).1 k) ?_
      refine own_pre (F' := T0.setTop (mkF m 25 #[.val (.int p0)] [(.int p0)])) (fun _ k => XS.iloadN X0.here hx rfl (hb hby d1_24) rfl k) ?_
      refine own_pre (F' := T0.setTop (mkF m 27 #[.val (.int p0)] [(.int (122 : Int32)), (.int p0)])) (fun _ k => XS.bipush X0.here hx rfl (hb hby d1_25) k) ?_
      refine own_iteI (fun hc27 => ?_) (fun hc27 => ?_)
      · skip
        refine own_pre (F' := T0.setTop (mkF m 30 #[.val (.int p0)] [])) (fun _ k => XS.icmpNo X0.here hx rfl (hb hby d1_27) rfl (tlt hc27).2.2.2 k) ?_
        exact g1_30 hw p0 Bd hml hZ T0 X0 e0
      · skip
        refine own_pre (F' := T0.setTop (mkF m 191 #[.val (.int p0)] [])) (fun _ k => XS.icmpYes X0.here hx rfl (pc0 := 27) (pc' := 191) rfl (hb hby d1_27) rfl (flt hc27).2.2.2 (by decide) (by decide) k) ?_
        exact g1_191 hw p0 Bd hml hZ T0 X0 e0
def f1_0 (p0 : Int32) : Int32 := (if p0 < (65 : Int32) then (f1_12 p0) else (if (90 : Int32) < p0 then (f1_12 p0) else (f1_191 p0)))
set_option maxRecDepth 65536 in
set_option maxHeartbeats 40000000 in
theorem g1_0 {p : Program} {l : Launch} {e : Env} {s : State} {m : MethodId} {below : List Frame} {meth : Method} {c : Code} {s₁ : State} {ws : List Jvm.Cond} {Z : State} {aw : Array Value} (hw : ∀ d ∈ tables_1, d.before aw Z = true) {h0 : Heap} (p0 : Int32)
    (Bd : BodyLoose p l (⟨"com/example/tsugiki/tsugiki/xml/XmlNames", "isNameStartChar", "(I)Z"⟩ : MethodName) (head1 (Jvm.Cond.code (⟨"com/example/tsugiki/tsugiki/xml/XmlNames", "isNameStartChar", "(I)Z"⟩ : MethodName) prog_63_method_3_code 1 (some .boolean) :: ws) ({ frames := 0, cells := 0, slots := 0, locals := 0 } : Room)) prog_63_method_3_code 1 (some .boolean) e s m #[(.int p0)] below meth c s₁) (hml : c.maxLocals = 1) (hZ : Z.Warmed39 s.vm) (T0 : State) (X0 : Stand p l e ({ frames := 0, cells := 0, slots := 0, locals := 0 } : Room) s m #[(.int p0)] below meth c T0 [] 0 0) (e0 : T0.heap = h0) :
    own_Go p e below s ({ frames := 0, cells := 0, slots := 0, locals := 0 } : Room).cells ({ frames := 0, cells := 0, slots := 0, locals := 0 } : Room).slots (some (.int (f1_0 p0))) (own_K0 h0) (T0.setTop (mkF m 0 #[.val (.int p0)] [])) := by
  have hx := Bd.exec
  have hby := Bd.bytes
  have hown : s.vm.findClass "com/example/tsugiki/tsugiki/xml/XmlNames" = some m.cls := findClass_of_methodNamed Bd.named
  unfold f1_0
  refine own_pre (F' := T0.setTop (mkF m 1 #[.val (.int p0)] [(.int p0)])) (fun _ k => XS.iloadN X0.here hx rfl (hb hby d1_0) rfl k) ?_
  refine own_pre (F' := T0.setTop (mkF m 3 #[.val (.int p0)] [(.int (65 : Int32)), (.int p0)])) (fun _ k => XS.bipush X0.here hx rfl (hb hby d1_1) k) ?_
  refine own_iteI (fun hc3 => ?_) (fun hc3 => ?_)
  · skip
    refine own_pre (F' := T0.setTop (mkF m 12 #[.val (.int p0)] [])) (fun _ k => XS.icmpYes X0.here hx rfl (pc0 := 3) (pc' := 12) rfl (hb hby d1_3) rfl (tlt hc3).1 (by decide) (by decide) k) ?_
    exact g1_12 hw p0 Bd hml hZ T0 X0 e0
  · skip
    refine own_pre (F' := T0.setTop (mkF m 6 #[.val (.int p0)] [])) (fun _ k => XS.icmpNo X0.here hx rfl (hb hby d1_3) rfl (flt hc3).1 k) ?_
    refine own_pre (F' := T0.setTop (mkF m 7 #[.val (.int p0)] [(.int p0)])) (fun _ k => XS.iloadN X0.here hx rfl (hb hby d1_6) rfl k) ?_
    refine own_pre (F' := T0.setTop (mkF m 9 #[.val (.int p0)] [(.int (90 : Int32)), (.int p0)])) (fun _ k => XS.bipush X0.here hx rfl (hb hby d1_7) k) ?_
    refine own_iteI (fun hc9 => ?_) (fun hc9 => ?_)
    · skip
      refine own_pre (F' := T0.setTop (mkF m 12 #[.val (.int p0)] [])) (fun _ k => XS.icmpNo X0.here hx rfl (hb hby d1_9) rfl (tlt hc9).2.2.2 k) ?_
      exact g1_12 hw p0 Bd hml hZ T0 X0 e0
    · skip
      refine own_pre (F' := T0.setTop (mkF m 191 #[.val (.int p0)] [])) (fun _ k => XS.icmpYes X0.here hx rfl (pc0 := 9) (pc' := 191) rfl (hb hby d1_9) rfl (flt hc9).2.2.2 (by decide) (by decide) k) ?_
      exact g1_191 hw p0 Bd hml hZ T0 X0 e0
theorem ef_1 (m : MethodId) (p0 : Int32) : entryFrame m #[(.int p0)] 1 = mkF m 0 #[.val (.int p0)] [] := by first | (simp [entryFrame, mkF, argsToLocals, Value.category]; done) | rfl
set_option maxRecDepth 65536 in
set_option maxHeartbeats 40000000 in
theorem rm1 (l : Launch) (Z : State) (aw : Array Value) (hw : ∀ d ∈ tables_1, d.before aw Z = true) (ws : List Jvm.Cond) (p0 : Int32) (h0 : Heap) :
    MetFree l (⟨"com/example/tsugiki/tsugiki/xml/XmlNames", "isNameStartChar", "(I)Z"⟩ : MethodName) (head1 (Jvm.Cond.code (⟨"com/example/tsugiki/tsugiki/xml/XmlNames", "isNameStartChar", "(I)Z"⟩ : MethodName) prog_63_method_3_code 1 (some .boolean) :: ws) ({ frames := 0, cells := 0, slots := 0, locals := 0 } : Room)) (fun a U => a = #[(.int p0)] ∧ Z.Warmed39 U.vm ∧ U.heap = h0) (fun _ _ _ _ _ => True) (fun _ U o U' => ∃ v L, o = .returned v ∧ own_Q (some (.int (f1_0 p0))) (own_K0 h0) v U'.heap L ∧ FrameEnd U o U' L ({ frames := 0, cells := 0, slots := 0, locals := 0 } : Room).cells ({ frames := 0, cells := 0, slots := 0, locals := 0 } : Room).slots) := by
  refine MetFree.of_bodySF (plainFor_of_name own_pn0) hisR ?_
  intro p e s m args below meth c s₁ Bd hml0 hP hK
  obtain ⟨rfl, hZ, hh⟩ := hP
  have hml : c.maxLocals = 1 := hml0
  have e0 : s₁.heap = h0 := by rw [← hh, Bd.state]; rfl
  exact own_pre (fun t k => castTop (ef_1 m p0) k) (g1_0 hw p0 Bd hml hZ s₁ (Stand.of_body Bd) e0)
/-! body 2 -/
theorem d2_0 : decode method_2_code 0 = .ok (.iload_n 0, 1) := by decide +kernel
theorem d2_1 : decode method_2_code 1 = .ok (.bipush 65, 2) := by decide +kernel
theorem d2_3 : decode method_2_code 3 = .ok (.if_icmp .ge 5, 3) := by decide +kernel
theorem d2_6 : decode method_2_code 6 = .ok (.iconst 0, 1) := by decide +kernel
theorem d2_7 : decode method_2_code 7 = .ok (.ireturn, 1) := by decide +kernel
theorem d2_8 : decode method_2_code 8 = .ok (.iload_n 0, 1) := by decide +kernel
theorem d2_9 : decode method_2_code 9 = .ok (.bipush 90, 2) := by decide +kernel
theorem d2_11 : decode method_2_code 11 = .ok (.if_icmp .gt 5, 3) := by decide +kernel
theorem d2_14 : decode method_2_code 14 = .ok (.iconst 1, 1) := by decide +kernel
theorem d2_15 : decode method_2_code 15 = .ok (.ireturn, 1) := by decide +kernel
theorem d2_16 : decode method_2_code 16 = .ok (.iload_n 0, 1) := by decide +kernel
theorem d2_17 : decode method_2_code 17 = .ok (.bipush 95, 2) := by decide +kernel
theorem d2_19 : decode method_2_code 19 = .ok (.if_icmp .ge 5, 3) := by decide +kernel
theorem d2_22 : decode method_2_code 22 = .ok (.iconst 0, 1) := by decide +kernel
theorem d2_23 : decode method_2_code 23 = .ok (.ireturn, 1) := by decide +kernel
theorem d2_24 : decode method_2_code 24 = .ok (.iload_n 0, 1) := by decide +kernel
theorem d2_25 : decode method_2_code 25 = .ok (.bipush 95, 2) := by decide +kernel
theorem d2_27 : decode method_2_code 27 = .ok (.if_icmp .ne 5, 3) := by decide +kernel
theorem d2_30 : decode method_2_code 30 = .ok (.iconst 1, 1) := by decide +kernel
theorem d2_31 : decode method_2_code 31 = .ok (.ireturn, 1) := by decide +kernel
theorem d2_32 : decode method_2_code 32 = .ok (.iload_n 0, 1) := by decide +kernel
theorem d2_33 : decode method_2_code 33 = .ok (.bipush 97, 2) := by decide +kernel
theorem d2_35 : decode method_2_code 35 = .ok (.if_icmp .ge 5, 3) := by decide +kernel
theorem d2_38 : decode method_2_code 38 = .ok (.iconst 0, 1) := by decide +kernel
theorem d2_39 : decode method_2_code 39 = .ok (.ireturn, 1) := by decide +kernel
theorem d2_40 : decode method_2_code 40 = .ok (.iload_n 0, 1) := by decide +kernel
theorem d2_41 : decode method_2_code 41 = .ok (.bipush 122, 2) := by decide +kernel
theorem d2_43 : decode method_2_code 43 = .ok (.if_icmp .gt 5, 3) := by decide +kernel
theorem d2_46 : decode method_2_code 46 = .ok (.iconst 1, 1) := by decide +kernel
theorem d2_47 : decode method_2_code 47 = .ok (.ireturn, 1) := by decide +kernel
theorem d2_48 : decode method_2_code 48 = .ok (.iload_n 0, 1) := by decide +kernel
theorem d2_49 : decode method_2_code 49 = .ok (.sipush 192, 3) := by decide +kernel
theorem d2_52 : decode method_2_code 52 = .ok (.if_icmp .ge 5, 3) := by decide +kernel
theorem d2_55 : decode method_2_code 55 = .ok (.iconst 0, 1) := by decide +kernel
theorem d2_56 : decode method_2_code 56 = .ok (.ireturn, 1) := by decide +kernel
theorem d2_57 : decode method_2_code 57 = .ok (.iload_n 0, 1) := by decide +kernel
theorem d2_58 : decode method_2_code 58 = .ok (.sipush 214, 3) := by decide +kernel
theorem d2_61 : decode method_2_code 61 = .ok (.if_icmp .gt 5, 3) := by decide +kernel
theorem d2_64 : decode method_2_code 64 = .ok (.iconst 1, 1) := by decide +kernel
theorem d2_65 : decode method_2_code 65 = .ok (.ireturn, 1) := by decide +kernel
theorem d2_66 : decode method_2_code 66 = .ok (.iload_n 0, 1) := by decide +kernel
theorem d2_67 : decode method_2_code 67 = .ok (.sipush 215, 3) := by decide +kernel
theorem d2_70 : decode method_2_code 70 = .ok (.if_icmp .ne 5, 3) := by decide +kernel
theorem d2_73 : decode method_2_code 73 = .ok (.iconst 0, 1) := by decide +kernel
theorem d2_74 : decode method_2_code 74 = .ok (.ireturn, 1) := by decide +kernel
theorem d2_75 : decode method_2_code 75 = .ok (.iload_n 0, 1) := by decide +kernel
theorem d2_76 : decode method_2_code 76 = .ok (.sipush 246, 3) := by decide +kernel
theorem d2_79 : decode method_2_code 79 = .ok (.if_icmp .gt 5, 3) := by decide +kernel
theorem d2_82 : decode method_2_code 82 = .ok (.iconst 1, 1) := by decide +kernel
theorem d2_83 : decode method_2_code 83 = .ok (.ireturn, 1) := by decide +kernel
theorem d2_84 : decode method_2_code 84 = .ok (.iload_n 0, 1) := by decide +kernel
theorem d2_85 : decode method_2_code 85 = .ok (.sipush 247, 3) := by decide +kernel
theorem d2_88 : decode method_2_code 88 = .ok (.if_icmp .ne 5, 3) := by decide +kernel
theorem d2_91 : decode method_2_code 91 = .ok (.iconst 0, 1) := by decide +kernel
theorem d2_92 : decode method_2_code 92 = .ok (.ireturn, 1) := by decide +kernel
theorem d2_93 : decode method_2_code 93 = .ok (.iload_n 0, 1) := by decide +kernel
theorem d2_94 : decode method_2_code 94 = .ok (.sipush 767, 3) := by decide +kernel
theorem d2_97 : decode method_2_code 97 = .ok (.if_icmp .gt 5, 3) := by decide +kernel
theorem d2_100 : decode method_2_code 100 = .ok (.iconst 1, 1) := by decide +kernel
theorem d2_101 : decode method_2_code 101 = .ok (.ireturn, 1) := by decide +kernel
theorem d2_102 : decode method_2_code 102 = .ok (.iload_n 0, 1) := by decide +kernel
theorem d2_103 : decode method_2_code 103 = .ok (.sipush 880, 3) := by decide +kernel
theorem d2_106 : decode method_2_code 106 = .ok (.if_icmp .ge 5, 3) := by decide +kernel
theorem d2_109 : decode method_2_code 109 = .ok (.iconst 0, 1) := by decide +kernel
theorem d2_110 : decode method_2_code 110 = .ok (.ireturn, 1) := by decide +kernel
theorem d2_111 : decode method_2_code 111 = .ok (.iload_n 0, 1) := by decide +kernel
theorem d2_112 : decode method_2_code 112 = .ok (.sipush 893, 3) := by decide +kernel
theorem d2_115 : decode method_2_code 115 = .ok (.if_icmp .gt 5, 3) := by decide +kernel
theorem d2_118 : decode method_2_code 118 = .ok (.iconst 1, 1) := by decide +kernel
theorem d2_119 : decode method_2_code 119 = .ok (.ireturn, 1) := by decide +kernel
theorem d2_120 : decode method_2_code 120 = .ok (.iload_n 0, 1) := by decide +kernel
theorem d2_121 : decode method_2_code 121 = .ok (.sipush 894, 3) := by decide +kernel
theorem d2_124 : decode method_2_code 124 = .ok (.if_icmp .ne 5, 3) := by decide +kernel
theorem d2_127 : decode method_2_code 127 = .ok (.iconst 0, 1) := by decide +kernel
theorem d2_128 : decode method_2_code 128 = .ok (.ireturn, 1) := by decide +kernel
theorem d2_129 : decode method_2_code 129 = .ok (.iload_n 0, 1) := by decide +kernel
theorem d2_130 : decode method_2_code 130 = .ok (.sipush 8191, 3) := by decide +kernel
theorem d2_133 : decode method_2_code 133 = .ok (.if_icmp .gt 5, 3) := by decide +kernel
theorem d2_136 : decode method_2_code 136 = .ok (.iconst 1, 1) := by decide +kernel
theorem d2_137 : decode method_2_code 137 = .ok (.ireturn, 1) := by decide +kernel
theorem d2_138 : decode method_2_code 138 = .ok (.iload_n 0, 1) := by decide +kernel
theorem d2_139 : decode method_2_code 139 = .ok (.sipush 8204, 3) := by decide +kernel
theorem d2_142 : decode method_2_code 142 = .ok (.if_icmp .ge 5, 3) := by decide +kernel
theorem d2_145 : decode method_2_code 145 = .ok (.iconst 0, 1) := by decide +kernel
theorem d2_146 : decode method_2_code 146 = .ok (.ireturn, 1) := by decide +kernel
theorem d2_147 : decode method_2_code 147 = .ok (.iload_n 0, 1) := by decide +kernel
theorem d2_148 : decode method_2_code 148 = .ok (.sipush 8205, 3) := by decide +kernel
theorem d2_151 : decode method_2_code 151 = .ok (.if_icmp .gt 5, 3) := by decide +kernel
theorem d2_154 : decode method_2_code 154 = .ok (.iconst 1, 1) := by decide +kernel
theorem d2_155 : decode method_2_code 155 = .ok (.ireturn, 1) := by decide +kernel
theorem d2_156 : decode method_2_code 156 = .ok (.iload_n 0, 1) := by decide +kernel
theorem d2_157 : decode method_2_code 157 = .ok (.sipush 8304, 3) := by decide +kernel
theorem d2_160 : decode method_2_code 160 = .ok (.if_icmp .ge 5, 3) := by decide +kernel
theorem d2_163 : decode method_2_code 163 = .ok (.iconst 0, 1) := by decide +kernel
theorem d2_164 : decode method_2_code 164 = .ok (.ireturn, 1) := by decide +kernel
theorem d2_165 : decode method_2_code 165 = .ok (.iload_n 0, 1) := by decide +kernel
theorem d2_166 : decode method_2_code 166 = .ok (.sipush 8591, 3) := by decide +kernel
theorem d2_169 : decode method_2_code 169 = .ok (.if_icmp .gt 5, 3) := by decide +kernel
theorem d2_172 : decode method_2_code 172 = .ok (.iconst 1, 1) := by decide +kernel
theorem d2_173 : decode method_2_code 173 = .ok (.ireturn, 1) := by decide +kernel
theorem d2_174 : decode method_2_code 174 = .ok (.iload_n 0, 1) := by decide +kernel
theorem d2_175 : decode method_2_code 175 = .ok (.sipush 11264, 3) := by decide +kernel
theorem d2_178 : decode method_2_code 178 = .ok (.if_icmp .ge 5, 3) := by decide +kernel
theorem d2_181 : decode method_2_code 181 = .ok (.iconst 0, 1) := by decide +kernel
theorem d2_182 : decode method_2_code 182 = .ok (.ireturn, 1) := by decide +kernel
theorem d2_183 : decode method_2_code 183 = .ok (.iload_n 0, 1) := by decide +kernel
theorem d2_184 : decode method_2_code 184 = .ok (.sipush 12271, 3) := by decide +kernel
theorem d2_187 : decode method_2_code 187 = .ok (.if_icmp .gt 5, 3) := by decide +kernel
theorem d2_190 : decode method_2_code 190 = .ok (.iconst 1, 1) := by decide +kernel
theorem d2_191 : decode method_2_code 191 = .ok (.ireturn, 1) := by decide +kernel
theorem d2_192 : decode method_2_code 192 = .ok (.iload_n 0, 1) := by decide +kernel
theorem d2_193 : decode method_2_code 193 = .ok (.sipush 12289, 3) := by decide +kernel
theorem d2_196 : decode method_2_code 196 = .ok (.if_icmp .ge 5, 3) := by decide +kernel
theorem d2_199 : decode method_2_code 199 = .ok (.iconst 0, 1) := by decide +kernel
theorem d2_200 : decode method_2_code 200 = .ok (.ireturn, 1) := by decide +kernel
theorem d2_201 : decode method_2_code 201 = .ok (.iload_n 0, 1) := by decide +kernel
theorem d2_202 : decode method_2_code 202 = .ok (.ldc 7, 2) := by decide +kernel
theorem d2_204 : decode method_2_code 204 = .ok (.if_icmp .gt 5, 3) := by decide +kernel
theorem d2_207 : decode method_2_code 207 = .ok (.iconst 1, 1) := by decide +kernel
theorem d2_208 : decode method_2_code 208 = .ok (.ireturn, 1) := by decide +kernel
theorem d2_209 : decode method_2_code 209 = .ok (.iload_n 0, 1) := by decide +kernel
theorem d2_210 : decode method_2_code 210 = .ok (.ldc 8, 2) := by decide +kernel
theorem d2_212 : decode method_2_code 212 = .ok (.if_icmp .ge 5, 3) := by decide +kernel
theorem d2_215 : decode method_2_code 215 = .ok (.iconst 0, 1) := by decide +kernel
theorem d2_216 : decode method_2_code 216 = .ok (.ireturn, 1) := by decide +kernel
theorem d2_217 : decode method_2_code 217 = .ok (.iload_n 0, 1) := by decide +kernel
theorem d2_218 : decode method_2_code 218 = .ok (.ldc 9, 2) := by decide +kernel
theorem d2_220 : decode method_2_code 220 = .ok (.if_icmp .gt 5, 3) := by decide +kernel
theorem d2_223 : decode method_2_code 223 = .ok (.iconst 1, 1) := by decide +kernel
theorem d2_224 : decode method_2_code 224 = .ok (.ireturn, 1) := by decide +kernel
theorem d2_225 : decode method_2_code 225 = .ok (.iload_n 0, 1) := by decide +kernel
theorem d2_226 : decode method_2_code 226 = .ok (.ldc 10, 2) := by decide +kernel
theorem d2_228 : decode method_2_code 228 = .ok (.if_icmp .ge 5, 3) := by decide +kernel
theorem d2_231 : decode method_2_code 231 = .ok (.iconst 0, 1) := by decide +kernel
theorem d2_232 : decode method_2_code 232 = .ok (.ireturn, 1) := by decide +kernel
theorem d2_233 : decode method_2_code 233 = .ok (.iload_n 0, 1) := by decide +kernel
theorem d2_234 : decode method_2_code 234 = .ok (.ldc 11, 2) := by decide +kernel
theorem d2_236 : decode method_2_code 236 = .ok (.if_icmp .gt 5, 3) := by decide +kernel
theorem d2_239 : decode method_2_code 239 = .ok (.iconst 1, 1) := by decide +kernel
theorem d2_240 : decode method_2_code 240 = .ok (.ireturn, 1) := by decide +kernel
theorem d2_241 : decode method_2_code 241 = .ok (.iload_n 0, 1) := by decide +kernel
theorem d2_242 : decode method_2_code 242 = .ok (.ldc 12, 2) := by decide +kernel
theorem d2_244 : decode method_2_code 244 = .ok (.if_icmp .ge 5, 3) := by decide +kernel
theorem d2_247 : decode method_2_code 247 = .ok (.iconst 0, 1) := by decide +kernel
theorem d2_248 : decode method_2_code 248 = .ok (.ireturn, 1) := by decide +kernel
theorem d2_249 : decode method_2_code 249 = .ok (.iload_n 0, 1) := by decide +kernel
theorem d2_250 : decode method_2_code 250 = .ok (.ldc 13, 2) := by decide +kernel
theorem d2_252 : decode method_2_code 252 = .ok (.if_icmp .gt 7, 3) := by decide +kernel
theorem d2_255 : decode method_2_code 255 = .ok (.iconst 1, 1) := by decide +kernel
theorem d2_256 : decode method_2_code 256 = .ok (.goto 4, 3) := by decide +kernel
theorem d2_259 : decode method_2_code 259 = .ok (.iconst 0, 1) := by decide +kernel
theorem d2_260 : decode method_2_code 260 = .ok (.ireturn, 1) := by decide +kernel
theorem own_pn1 : plainName "com/example/tsugiki/tsugiki/xml/XmlNamesIsNameStartCharPinLaw" = true := by first | (simp [plainName, overriddenIn]; done) | decide +kernel
def f2_0 (p0 : Int32) : Int32 := (if p0 < (65 : Int32) then (0 : Int32) else (if (90 : Int32) < p0 then (if p0 < (95 : Int32) then (0 : Int32) else (if p0 = (95 : Int32) then (1 : Int32) else (if p0 < (97 : Int32) then (0 : Int32) else (if (122 : Int32) < p0 then (if p0 < (192 : Int32) then (0 : Int32) else (if (214 : Int32) < p0 then (if p0 = (215 : Int32) then (0 : Int32) else (if (246 : Int32) < p0 then (if p0 = (247 : Int32) then (0 : Int32) else (if (767 : Int32) < p0 then (if p0 < (880 : Int32) then (0 : Int32) else (if (893 : Int32) < p0 then (if p0 = (894 : Int32) then (0 : Int32) else (if (8191 : Int32) < p0 then (if p0 < (8204 : Int32) then (0 : Int32) else (if (8205 : Int32) < p0 then (if p0 < (8304 : Int32) then (0 : Int32) else (if (8591 : Int32) < p0 then (if p0 < (11264 : Int32) then (0 : Int32) else (if (12271 : Int32) < p0 then (if p0 < (12289 : Int32) then (0 : Int32) else (if (55295 : Int32) < p0 then (if p0 < (63744 : Int32) then (0 : Int32) else (if (64975 : Int32) < p0 then (if p0 < (65008 : Int32) then (0 : Int32) else (if (65533 : Int32) < p0 then (if p0 < (65536 : Int32) then (0 : Int32) else (if (983039 : Int32) < p0 then (0 : Int32) else (1 : Int32))) else (1 : Int32))) else (1 : Int32))) else (1 : Int32))) else (1 : Int32))) else (1 : Int32))) else (1 : Int32))) else (1 : Int32))) else (1 : Int32))) else (1 : Int32))) else (1 : Int32))) else (1 : Int32))) else (1 : Int32))))) else (1 : Int32)))
set_option maxRecDepth 65536 in
set_option maxHeartbeats 40000000 in
theorem g2_0 {p : Program} {l : Launch} {e : Env} {s : State} {m : MethodId} {below : List Frame} {meth : Method} {c : Code} {s₁ : State} {ws : List Jvm.Cond} {Z : State} {aw : Array Value} (hw : ∀ d ∈ tables_1, d.before aw Z = true) {h0 : Heap} (p0 : Int32)
    (Bd : BodyLoose p l (⟨"com/example/tsugiki/tsugiki/xml/XmlNamesIsNameStartCharPinLaw", "ref", "(I)Z"⟩ : MethodName) (head1 (Jvm.Cond.code (⟨"com/example/tsugiki/tsugiki/xml/XmlNamesIsNameStartCharPinLaw", "ref", "(I)Z"⟩ : MethodName) method_2_code 1 (some .boolean) :: ws) ({ frames := 0, cells := 0, slots := 0, locals := 0 } : Room)) method_2_code 1 (some .boolean) e s m #[(.int p0)] below meth c s₁) (hml : c.maxLocals = 1) (hZ : Z.Warmed39 s.vm) (T0 : State) (X0 : Stand p l e ({ frames := 0, cells := 0, slots := 0, locals := 0 } : Room) s m #[(.int p0)] below meth c T0 [] 0 0) (e0 : T0.heap = h0) :
    own_Go p e below s ({ frames := 0, cells := 0, slots := 0, locals := 0 } : Room).cells ({ frames := 0, cells := 0, slots := 0, locals := 0 } : Room).slots (some (.int (f2_0 p0))) (own_K0 h0) (T0.setTop (mkF m 0 #[.val (.int p0)] [])) := by
  have hx := Bd.exec
  have hby := Bd.bytes
  have hown : s.vm.findClass "com/example/tsugiki/tsugiki/xml/XmlNamesIsNameStartCharPinLaw" = some m.cls := findClass_of_methodNamed Bd.named
  unfold f2_0
  refine own_pre (F' := T0.setTop (mkF m 1 #[.val (.int p0)] [(.int p0)])) (fun _ k => XS.iloadN X0.here hx rfl (hb hby d2_0) rfl k) ?_
  refine own_pre (F' := T0.setTop (mkF m 3 #[.val (.int p0)] [(.int (65 : Int32)), (.int p0)])) (fun _ k => XS.bipush X0.here hx rfl (hb hby d2_1) k) ?_
  refine own_iteI (fun hc3 => ?_) (fun hc3 => ?_)
  · skip
    refine own_pre (F' := T0.setTop (mkF m 6 #[.val (.int p0)] [])) (fun _ k => XS.icmpNo X0.here hx rfl (hb hby d2_3) rfl (tlt hc3).2.1 k) ?_
    refine own_pre (F' := T0.setTop (mkF m 7 #[.val (.int p0)] [(.int (0 : Int32))])) (fun _ k => XS.iconst X0.here hx rfl (hb hby d2_6) k) ?_
    exact own_ret X0 hx Bd.notSynchronized Bd.returns rfl (Or.inl ⟨rfl, by simp, _, rfl⟩) (hb hby d2_7) ⟨rfl, e0⟩ (by decide) (by decide)
  · skip
    refine own_pre (F' := T0.setTop (mkF m 8 #[.val (.int p0)] [])) (fun _ k => XS.icmpYes X0.here hx rfl (pc0 := 3) (pc' := 8) rfl (hb hby d2_3) rfl (flt hc3).2.1 (by decide) (by decide) k) ?_
    refine own_pre (F' := T0.setTop (mkF m 9 #[.val (.int p0)] [(.int p0)])) (fun _ k => XS.iloadN X0.here hx rfl (hb hby d2_8) rfl k) ?_
    refine own_pre (F' := T0.setTop (mkF m 11 #[.val (.int p0)] [(.int (90 : Int32)), (.int p0)])) (fun _ k => XS.bipush X0.here hx rfl (hb hby d2_9) k) ?_
    refine own_iteI (fun hc11 => ?_) (fun hc11 => ?_)
    · skip
      refine own_pre (F' := T0.setTop (mkF m 16 #[.val (.int p0)] [])) (fun _ k => XS.icmpYes X0.here hx rfl (pc0 := 11) (pc' := 16) rfl (hb hby d2_11) rfl (tlt hc11).2.2.1 (by decide) (by decide) k) ?_
      refine own_pre (F' := T0.setTop (mkF m 17 #[.val (.int p0)] [(.int p0)])) (fun _ k => XS.iloadN X0.here hx rfl (hb hby d2_16) rfl k) ?_
      refine own_pre (F' := T0.setTop (mkF m 19 #[.val (.int p0)] [(.int (95 : Int32)), (.int p0)])) (fun _ k => XS.bipush X0.here hx rfl (hb hby d2_17) k) ?_
      refine own_iteI (fun hc19 => ?_) (fun hc19 => ?_)
      · skip
        refine own_pre (F' := T0.setTop (mkF m 22 #[.val (.int p0)] [])) (fun _ k => XS.icmpNo X0.here hx rfl (hb hby d2_19) rfl (tlt hc19).2.1 k) ?_
        refine own_pre (F' := T0.setTop (mkF m 23 #[.val (.int p0)] [(.int (0 : Int32))])) (fun _ k => XS.iconst X0.here hx rfl (hb hby d2_22) k) ?_
        exact own_ret X0 hx Bd.notSynchronized Bd.returns rfl (Or.inl ⟨rfl, by simp, _, rfl⟩) (hb hby d2_23) ⟨rfl, e0⟩ (by decide) (by decide)
      · skip
        refine own_pre (F' := T0.setTop (mkF m 24 #[.val (.int p0)] [])) (fun _ k => XS.icmpYes X0.here hx rfl (pc0 := 19) (pc' := 24) rfl (hb hby d2_19) rfl (flt hc19).2.1 (by decide) (by decide) k) ?_
        refine own_pre (F' := T0.setTop (mkF m 25 #[.val (.int p0)] [(.int p0)])) (fun _ k => XS.iloadN X0.here hx rfl (hb hby d2_24) rfl k) ?_
        refine own_pre (F' := T0.setTop (mkF m 27 #[.val (.int p0)] [(.int (95 : Int32)), (.int p0)])) (fun _ k => XS.bipush X0.here hx rfl (hb hby d2_25) k) ?_
        refine own_iteI (fun hc27 => ?_) (fun hc27 => ?_)
        · skip
          refine own_pre (F' := T0.setTop (mkF m 30 #[.val (.int p0)] [])) (fun _ k => XS.icmpNo X0.here hx rfl (hb hby d2_27) rfl (teq hc27).2 k) ?_
          refine own_pre (F' := T0.setTop (mkF m 31 #[.val (.int p0)] [(.int (1 : Int32))])) (fun _ k => XS.iconst X0.here hx rfl (hb hby d2_30) k) ?_
          exact own_ret X0 hx Bd.notSynchronized Bd.returns rfl (Or.inl ⟨rfl, by simp, _, rfl⟩) (hb hby d2_31) ⟨rfl, e0⟩ (by decide) (by decide)
        · skip
          refine own_pre (F' := T0.setTop (mkF m 32 #[.val (.int p0)] [])) (fun _ k => XS.icmpYes X0.here hx rfl (pc0 := 27) (pc' := 32) rfl (hb hby d2_27) rfl (feq hc27).2 (by decide) (by decide) k) ?_
          refine own_pre (F' := T0.setTop (mkF m 33 #[.val (.int p0)] [(.int p0)])) (fun _ k => XS.iloadN X0.here hx rfl (hb hby d2_32) rfl k) ?_
          refine own_pre (F' := T0.setTop (mkF m 35 #[.val (.int p0)] [(.int (97 : Int32)), (.int p0)])) (fun _ k => XS.bipush X0.here hx rfl (hb hby d2_33) k) ?_
          refine own_iteI (fun hc35 => ?_) (fun hc35 => ?_)
          · skip
            refine own_pre (F' := T0.setTop (mkF m 38 #[.val (.int p0)] [])) (fun _ k => XS.icmpNo X0.here hx rfl (hb hby d2_35) rfl (tlt hc35).2.1 k) ?_
            refine own_pre (F' := T0.setTop (mkF m 39 #[.val (.int p0)] [(.int (0 : Int32))])) (fun _ k => XS.iconst X0.here hx rfl (hb hby d2_38) k) ?_
            exact own_ret X0 hx Bd.notSynchronized Bd.returns rfl (Or.inl ⟨rfl, by simp, _, rfl⟩) (hb hby d2_39) ⟨rfl, e0⟩ (by decide) (by decide)
          · skip
            refine own_pre (F' := T0.setTop (mkF m 40 #[.val (.int p0)] [])) (fun _ k => XS.icmpYes X0.here hx rfl (pc0 := 35) (pc' := 40) rfl (hb hby d2_35) rfl (flt hc35).2.1 (by decide) (by decide) k) ?_
            refine own_pre (F' := T0.setTop (mkF m 41 #[.val (.int p0)] [(.int p0)])) (fun _ k => XS.iloadN X0.here hx rfl (hb hby d2_40) rfl k) ?_
            refine own_pre (F' := T0.setTop (mkF m 43 #[.val (.int p0)] [(.int (122 : Int32)), (.int p0)])) (fun _ k => XS.bipush X0.here hx rfl (hb hby d2_41) k) ?_
            refine own_iteI (fun hc43 => ?_) (fun hc43 => ?_)
            · skip
              refine own_pre (F' := T0.setTop (mkF m 48 #[.val (.int p0)] [])) (fun _ k => XS.icmpYes X0.here hx rfl (pc0 := 43) (pc' := 48) rfl (hb hby d2_43) rfl (tlt hc43).2.2.1 (by decide) (by decide) k) ?_
              refine own_pre (F' := T0.setTop (mkF m 49 #[.val (.int p0)] [(.int p0)])) (fun _ k => XS.iloadN X0.here hx rfl (hb hby d2_48) rfl k) ?_
              refine own_pre (F' := T0.setTop (mkF m 52 #[.val (.int p0)] [(.int (192 : Int32)), (.int p0)])) (fun _ k => XS.sipush X0.here hx rfl (hb hby d2_49) k) ?_
              refine own_iteI (fun hc52 => ?_) (fun hc52 => ?_)
              · skip
                refine own_pre (F' := T0.setTop (mkF m 55 #[.val (.int p0)] [])) (fun _ k => XS.icmpNo X0.here hx rfl (hb hby d2_52) rfl (tlt hc52).2.1 k) ?_
                refine own_pre (F' := T0.setTop (mkF m 56 #[.val (.int p0)] [(.int (0 : Int32))])) (fun _ k => XS.iconst X0.here hx rfl (hb hby d2_55) k) ?_
                exact own_ret X0 hx Bd.notSynchronized Bd.returns rfl (Or.inl ⟨rfl, by simp, _, rfl⟩) (hb hby d2_56) ⟨rfl, e0⟩ (by decide) (by decide)
              · skip
                refine own_pre (F' := T0.setTop (mkF m 57 #[.val (.int p0)] [])) (fun _ k => XS.icmpYes X0.here hx rfl (pc0 := 52) (pc' := 57) rfl (hb hby d2_52) rfl (flt hc52).2.1 (by decide) (by decide) k) ?_
                refine own_pre (F' := T0.setTop (mkF m 58 #[.val (.int p0)] [(.int p0)])) (fun _ k => XS.iloadN X0.here hx rfl (hb hby d2_57) rfl k) ?_
                refine own_pre (F' := T0.setTop (mkF m 61 #[.val (.int p0)] [(.int (214 : Int32)), (.int p0)])) (fun _ k => XS.sipush X0.here hx rfl (hb hby d2_58) k) ?_
                refine own_iteI (fun hc61 => ?_) (fun hc61 => ?_)
                · skip
                  refine own_pre (F' := T0.setTop (mkF m 66 #[.val (.int p0)] [])) (fun _ k => XS.icmpYes X0.here hx rfl (pc0 := 61) (pc' := 66) rfl (hb hby d2_61) rfl (tlt hc61).2.2.1 (by decide) (by decide) k) ?_
                  refine own_pre (F' := T0.setTop (mkF m 67 #[.val (.int p0)] [(.int p0)])) (fun _ k => XS.iloadN X0.here hx rfl (hb hby d2_66) rfl k) ?_
                  refine own_pre (F' := T0.setTop (mkF m 70 #[.val (.int p0)] [(.int (215 : Int32)), (.int p0)])) (fun _ k => XS.sipush X0.here hx rfl (hb hby d2_67) k) ?_
                  refine own_iteI (fun hc70 => ?_) (fun hc70 => ?_)
                  · skip
                    refine own_pre (F' := T0.setTop (mkF m 73 #[.val (.int p0)] [])) (fun _ k => XS.icmpNo X0.here hx rfl (hb hby d2_70) rfl (teq hc70).2 k) ?_
                    refine own_pre (F' := T0.setTop (mkF m 74 #[.val (.int p0)] [(.int (0 : Int32))])) (fun _ k => XS.iconst X0.here hx rfl (hb hby d2_73) k) ?_
                    exact own_ret X0 hx Bd.notSynchronized Bd.returns rfl (Or.inl ⟨rfl, by simp, _, rfl⟩) (hb hby d2_74) ⟨rfl, e0⟩ (by decide) (by decide)
                  · skip
                    refine own_pre (F' := T0.setTop (mkF m 75 #[.val (.int p0)] [])) (fun _ k => XS.icmpYes X0.here hx rfl (pc0 := 70) (pc' := 75) rfl (hb hby d2_70) rfl (feq hc70).2 (by decide) (by decide) k) ?_
                    refine own_pre (F' := T0.setTop (mkF m 76 #[.val (.int p0)] [(.int p0)])) (fun _ k => XS.iloadN X0.here hx rfl (hb hby d2_75) rfl k) ?_
                    refine own_pre (F' := T0.setTop (mkF m 79 #[.val (.int p0)] [(.int (246 : Int32)), (.int p0)])) (fun _ k => XS.sipush X0.here hx rfl (hb hby d2_76) k) ?_
                    refine own_iteI (fun hc79 => ?_) (fun hc79 => ?_)
                    · skip
                      refine own_pre (F' := T0.setTop (mkF m 84 #[.val (.int p0)] [])) (fun _ k => XS.icmpYes X0.here hx rfl (pc0 := 79) (pc' := 84) rfl (hb hby d2_79) rfl (tlt hc79).2.2.1 (by decide) (by decide) k) ?_
                      refine own_pre (F' := T0.setTop (mkF m 85 #[.val (.int p0)] [(.int p0)])) (fun _ k => XS.iloadN X0.here hx rfl (hb hby d2_84) rfl k) ?_
                      refine own_pre (F' := T0.setTop (mkF m 88 #[.val (.int p0)] [(.int (247 : Int32)), (.int p0)])) (fun _ k => XS.sipush X0.here hx rfl (hb hby d2_85) k) ?_
                      refine own_iteI (fun hc88 => ?_) (fun hc88 => ?_)
                      · skip
                        refine own_pre (F' := T0.setTop (mkF m 91 #[.val (.int p0)] [])) (fun _ k => XS.icmpNo X0.here hx rfl (hb hby d2_88) rfl (teq hc88).2 k) ?_
                        refine own_pre (F' := T0.setTop (mkF m 92 #[.val (.int p0)] [(.int (0 : Int32))])) (fun _ k => XS.iconst X0.here hx rfl (hb hby d2_91) k) ?_
                        exact own_ret X0 hx Bd.notSynchronized Bd.returns rfl (Or.inl ⟨rfl, by simp, _, rfl⟩) (hb hby d2_92) ⟨rfl, e0⟩ (by decide) (by decide)
                      · skip
                        refine own_pre (F' := T0.setTop (mkF m 93 #[.val (.int p0)] [])) (fun _ k => XS.icmpYes X0.here hx rfl (pc0 := 88) (pc' := 93) rfl (hb hby d2_88) rfl (feq hc88).2 (by decide) (by decide) k) ?_
                        refine own_pre (F' := T0.setTop (mkF m 94 #[.val (.int p0)] [(.int p0)])) (fun _ k => XS.iloadN X0.here hx rfl (hb hby d2_93) rfl k) ?_
                        refine own_pre (F' := T0.setTop (mkF m 97 #[.val (.int p0)] [(.int (767 : Int32)), (.int p0)])) (fun _ k => XS.sipush X0.here hx rfl (hb hby d2_94) k) ?_
                        refine own_iteI (fun hc97 => ?_) (fun hc97 => ?_)
                        · skip
                          refine own_pre (F' := T0.setTop (mkF m 102 #[.val (.int p0)] [])) (fun _ k => XS.icmpYes X0.here hx rfl (pc0 := 97) (pc' := 102) rfl (hb hby d2_97) rfl (tlt hc97).2.2.1 (by decide) (by decide) k) ?_
                          refine own_pre (F' := T0.setTop (mkF m 103 #[.val (.int p0)] [(.int p0)])) (fun _ k => XS.iloadN X0.here hx rfl (hb hby d2_102) rfl k) ?_
                          refine own_pre (F' := T0.setTop (mkF m 106 #[.val (.int p0)] [(.int (880 : Int32)), (.int p0)])) (fun _ k => XS.sipush X0.here hx rfl (hb hby d2_103) k) ?_
                          refine own_iteI (fun hc106 => ?_) (fun hc106 => ?_)
                          · skip
                            refine own_pre (F' := T0.setTop (mkF m 109 #[.val (.int p0)] [])) (fun _ k => XS.icmpNo X0.here hx rfl (hb hby d2_106) rfl (tlt hc106).2.1 k) ?_
                            refine own_pre (F' := T0.setTop (mkF m 110 #[.val (.int p0)] [(.int (0 : Int32))])) (fun _ k => XS.iconst X0.here hx rfl (hb hby d2_109) k) ?_
                            exact own_ret X0 hx Bd.notSynchronized Bd.returns rfl (Or.inl ⟨rfl, by simp, _, rfl⟩) (hb hby d2_110) ⟨rfl, e0⟩ (by decide) (by decide)
                          · skip
                            refine own_pre (F' := T0.setTop (mkF m 111 #[.val (.int p0)] [])) (fun _ k => XS.icmpYes X0.here hx rfl (pc0 := 106) (pc' := 111) rfl (hb hby d2_106) rfl (flt hc106).2.1 (by decide) (by decide) k) ?_
                            refine own_pre (F' := T0.setTop (mkF m 112 #[.val (.int p0)] [(.int p0)])) (fun _ k => XS.iloadN X0.here hx rfl (hb hby d2_111) rfl k) ?_
                            refine own_pre (F' := T0.setTop (mkF m 115 #[.val (.int p0)] [(.int (893 : Int32)), (.int p0)])) (fun _ k => XS.sipush X0.here hx rfl (hb hby d2_112) k) ?_
                            refine own_iteI (fun hc115 => ?_) (fun hc115 => ?_)
                            · skip
                              refine own_pre (F' := T0.setTop (mkF m 120 #[.val (.int p0)] [])) (fun _ k => XS.icmpYes X0.here hx rfl (pc0 := 115) (pc' := 120) rfl (hb hby d2_115) rfl (tlt hc115).2.2.1 (by decide) (by decide) k) ?_
                              refine own_pre (F' := T0.setTop (mkF m 121 #[.val (.int p0)] [(.int p0)])) (fun _ k => XS.iloadN X0.here hx rfl (hb hby d2_120) rfl k) ?_
                              refine own_pre (F' := T0.setTop (mkF m 124 #[.val (.int p0)] [(.int (894 : Int32)), (.int p0)])) (fun _ k => XS.sipush X0.here hx rfl (hb hby d2_121) k) ?_
                              refine own_iteI (fun hc124 => ?_) (fun hc124 => ?_)
                              · skip
                                refine own_pre (F' := T0.setTop (mkF m 127 #[.val (.int p0)] [])) (fun _ k => XS.icmpNo X0.here hx rfl (hb hby d2_124) rfl (teq hc124).2 k) ?_
                                refine own_pre (F' := T0.setTop (mkF m 128 #[.val (.int p0)] [(.int (0 : Int32))])) (fun _ k => XS.iconst X0.here hx rfl (hb hby d2_127) k) ?_
                                exact own_ret X0 hx Bd.notSynchronized Bd.returns rfl (Or.inl ⟨rfl, by simp, _, rfl⟩) (hb hby d2_128) ⟨rfl, e0⟩ (by decide) (by decide)
                              · skip
                                refine own_pre (F' := T0.setTop (mkF m 129 #[.val (.int p0)] [])) (fun _ k => XS.icmpYes X0.here hx rfl (pc0 := 124) (pc' := 129) rfl (hb hby d2_124) rfl (feq hc124).2 (by decide) (by decide) k) ?_
                                refine own_pre (F' := T0.setTop (mkF m 130 #[.val (.int p0)] [(.int p0)])) (fun _ k => XS.iloadN X0.here hx rfl (hb hby d2_129) rfl k) ?_
                                refine own_pre (F' := T0.setTop (mkF m 133 #[.val (.int p0)] [(.int (8191 : Int32)), (.int p0)])) (fun _ k => XS.sipush X0.here hx rfl (hb hby d2_130) k) ?_
                                refine own_iteI (fun hc133 => ?_) (fun hc133 => ?_)
                                · skip
                                  refine own_pre (F' := T0.setTop (mkF m 138 #[.val (.int p0)] [])) (fun _ k => XS.icmpYes X0.here hx rfl (pc0 := 133) (pc' := 138) rfl (hb hby d2_133) rfl (tlt hc133).2.2.1 (by decide) (by decide) k) ?_
                                  refine own_pre (F' := T0.setTop (mkF m 139 #[.val (.int p0)] [(.int p0)])) (fun _ k => XS.iloadN X0.here hx rfl (hb hby d2_138) rfl k) ?_
                                  refine own_pre (F' := T0.setTop (mkF m 142 #[.val (.int p0)] [(.int (8204 : Int32)), (.int p0)])) (fun _ k => XS.sipush X0.here hx rfl (hb hby d2_139) k) ?_
                                  refine own_iteI (fun hc142 => ?_) (fun hc142 => ?_)
                                  · skip
                                    refine own_pre (F' := T0.setTop (mkF m 145 #[.val (.int p0)] [])) (fun _ k => XS.icmpNo X0.here hx rfl (hb hby d2_142) rfl (tlt hc142).2.1 k) ?_
                                    refine own_pre (F' := T0.setTop (mkF m 146 #[.val (.int p0)] [(.int (0 : Int32))])) (fun _ k => XS.iconst X0.here hx rfl (hb hby d2_145) k) ?_
                                    exact own_ret X0 hx Bd.notSynchronized Bd.returns rfl (Or.inl ⟨rfl, by simp, _, rfl⟩) (hb hby d2_146) ⟨rfl, e0⟩ (by decide) (by decide)
                                  · skip
                                    refine own_pre (F' := T0.setTop (mkF m 147 #[.val (.int p0)] [])) (fun _ k => XS.icmpYes X0.here hx rfl (pc0 := 142) (pc' := 147) rfl (hb hby d2_142) rfl (flt hc142).2.1 (by decide) (by decide) k) ?_
                                    refine own_pre (F' := T0.setTop (mkF m 148 #[.val (.int p0)] [(.int p0)])) (fun _ k => XS.iloadN X0.here hx rfl (hb hby d2_147) rfl k) ?_
                                    refine own_pre (F' := T0.setTop (mkF m 151 #[.val (.int p0)] [(.int (8205 : Int32)), (.int p0)])) (fun _ k => XS.sipush X0.here hx rfl (hb hby d2_148) k) ?_
                                    refine own_iteI (fun hc151 => ?_) (fun hc151 => ?_)
                                    · skip
                                      refine own_pre (F' := T0.setTop (mkF m 156 #[.val (.int p0)] [])) (fun _ k => XS.icmpYes X0.here hx rfl (pc0 := 151) (pc' := 156) rfl (hb hby d2_151) rfl (tlt hc151).2.2.1 (by decide) (by decide) k) ?_
                                      refine own_pre (F' := T0.setTop (mkF m 157 #[.val (.int p0)] [(.int p0)])) (fun _ k => XS.iloadN X0.here hx rfl (hb hby d2_156) rfl k) ?_
                                      refine own_pre (F' := T0.setTop (mkF m 160 #[.val (.int p0)] [(.int (8304 : Int32)), (.int p0)])) (fun _ k => XS.sipush X0.here hx rfl (hb hby d2_157) k) ?_
                                      refine own_iteI (fun hc160 => ?_) (fun hc160 => ?_)
                                      · skip
                                        refine own_pre (F' := T0.setTop (mkF m 163 #[.val (.int p0)] [])) (fun _ k => XS.icmpNo X0.here hx rfl (hb hby d2_160) rfl (tlt hc160).2.1 k) ?_
                                        refine own_pre (F' := T0.setTop (mkF m 164 #[.val (.int p0)] [(.int (0 : Int32))])) (fun _ k => XS.iconst X0.here hx rfl (hb hby d2_163) k) ?_
                                        exact own_ret X0 hx Bd.notSynchronized Bd.returns rfl (Or.inl ⟨rfl, by simp, _, rfl⟩) (hb hby d2_164) ⟨rfl, e0⟩ (by decide) (by decide)
                                      · skip
                                        refine own_pre (F' := T0.setTop (mkF m 165 #[.val (.int p0)] [])) (fun _ k => XS.icmpYes X0.here hx rfl (pc0 := 160) (pc' := 165) rfl (hb hby d2_160) rfl (flt hc160).2.1 (by decide) (by decide) k) ?_
                                        refine own_pre (F' := T0.setTop (mkF m 166 #[.val (.int p0)] [(.int p0)])) (fun _ k => XS.iloadN X0.here hx rfl (hb hby d2_165) rfl k) ?_
                                        refine own_pre (F' := T0.setTop (mkF m 169 #[.val (.int p0)] [(.int (8591 : Int32)), (.int p0)])) (fun _ k => XS.sipush X0.here hx rfl (hb hby d2_166) k) ?_
                                        refine own_iteI (fun hc169 => ?_) (fun hc169 => ?_)
                                        · skip
                                          refine own_pre (F' := T0.setTop (mkF m 174 #[.val (.int p0)] [])) (fun _ k => XS.icmpYes X0.here hx rfl (pc0 := 169) (pc' := 174) rfl (hb hby d2_169) rfl (tlt hc169).2.2.1 (by decide) (by decide) k) ?_
                                          refine own_pre (F' := T0.setTop (mkF m 175 #[.val (.int p0)] [(.int p0)])) (fun _ k => XS.iloadN X0.here hx rfl (hb hby d2_174) rfl k) ?_
                                          refine own_pre (F' := T0.setTop (mkF m 178 #[.val (.int p0)] [(.int (11264 : Int32)), (.int p0)])) (fun _ k => XS.sipush X0.here hx rfl (hb hby d2_175) k) ?_
                                          refine own_iteI (fun hc178 => ?_) (fun hc178 => ?_)
                                          · skip
                                            refine own_pre (F' := T0.setTop (mkF m 181 #[.val (.int p0)] [])) (fun _ k => XS.icmpNo X0.here hx rfl (hb hby d2_178) rfl (tlt hc178).2.1 k) ?_
                                            refine own_pre (F' := T0.setTop (mkF m 182 #[.val (.int p0)] [(.int (0 : Int32))])) (fun _ k => XS.iconst X0.here hx rfl (hb hby d2_181) k) ?_
                                            exact own_ret X0 hx Bd.notSynchronized Bd.returns rfl (Or.inl ⟨rfl, by simp, _, rfl⟩) (hb hby d2_182) ⟨rfl, e0⟩ (by decide) (by decide)
                                          · skip
                                            refine own_pre (F' := T0.setTop (mkF m 183 #[.val (.int p0)] [])) (fun _ k => XS.icmpYes X0.here hx rfl (pc0 := 178) (pc' := 183) rfl (hb hby d2_178) rfl (flt hc178).2.1 (by decide) (by decide) k) ?_
                                            refine own_pre (F' := T0.setTop (mkF m 184 #[.val (.int p0)] [(.int p0)])) (fun _ k => XS.iloadN X0.here hx rfl (hb hby d2_183) rfl k) ?_
                                            refine own_pre (F' := T0.setTop (mkF m 187 #[.val (.int p0)] [(.int (12271 : Int32)), (.int p0)])) (fun _ k => XS.sipush X0.here hx rfl (hb hby d2_184) k) ?_
                                            refine own_iteI (fun hc187 => ?_) (fun hc187 => ?_)
                                            · skip
                                              refine own_pre (F' := T0.setTop (mkF m 192 #[.val (.int p0)] [])) (fun _ k => XS.icmpYes X0.here hx rfl (pc0 := 187) (pc' := 192) rfl (hb hby d2_187) rfl (tlt hc187).2.2.1 (by decide) (by decide) k) ?_
                                              refine own_pre (F' := T0.setTop (mkF m 193 #[.val (.int p0)] [(.int p0)])) (fun _ k => XS.iloadN X0.here hx rfl (hb hby d2_192) rfl k) ?_
                                              refine own_pre (F' := T0.setTop (mkF m 196 #[.val (.int p0)] [(.int (12289 : Int32)), (.int p0)])) (fun _ k => XS.sipush X0.here hx rfl (hb hby d2_193) k) ?_
                                              refine own_iteI (fun hc196 => ?_) (fun hc196 => ?_)
                                              · skip
                                                refine own_pre (F' := T0.setTop (mkF m 199 #[.val (.int p0)] [])) (fun _ k => XS.icmpNo X0.here hx rfl (hb hby d2_196) rfl (tlt hc196).2.1 k) ?_
                                                refine own_pre (F' := T0.setTop (mkF m 200 #[.val (.int p0)] [(.int (0 : Int32))])) (fun _ k => XS.iconst X0.here hx rfl (hb hby d2_199) k) ?_
                                                exact own_ret X0 hx Bd.notSynchronized Bd.returns rfl (Or.inl ⟨rfl, by simp, _, rfl⟩) (hb hby d2_200) ⟨rfl, e0⟩ (by decide) (by decide)
                                              · skip
                                                refine own_pre (F' := T0.setTop (mkF m 201 #[.val (.int p0)] [])) (fun _ k => XS.icmpYes X0.here hx rfl (pc0 := 196) (pc' := 201) rfl (hb hby d2_196) rfl (flt hc196).2.1 (by decide) (by decide) k) ?_
                                                refine own_pre (F' := T0.setTop (mkF m 202 #[.val (.int p0)] [(.int p0)])) (fun _ k => XS.iloadN X0.here hx rfl (hb hby d2_201) rfl k) ?_
                                                refine own_pre (F' := T0.setTop (mkF m 204 #[.val (.int p0)] [(.int (55295 : Int32)), (.int p0)])) (fun _ k => X0.ldcInt hx hown (mvT hZ (hw _ (List.mem_of_getElem? (i := 1) rfl))) (g := (mkF m 202 #[.val (.int p0)] [(.int p0)])) rfl (hb hby d2_202) _ k) ?_
                                                refine own_iteI (fun hc204 => ?_) (fun hc204 => ?_)
                                                · skip
                                                  refine own_pre (F' := T0.setTop (mkF m 209 #[.val (.int p0)] [])) (fun _ k => XS.icmpYes X0.here hx rfl (pc0 := 204) (pc' := 209) rfl (hb hby d2_204) rfl (tlt hc204).2.2.1 (by decide) (by decide) k) ?_
                                                  refine own_pre (F' := T0.setTop (mkF m 210 #[.val (.int p0)] [(.int p0)])) (fun _ k => XS.iloadN X0.here hx rfl (hb hby d2_209) rfl k) ?_
                                                  refine own_pre (F' := T0.setTop (mkF m 212 #[.val (.int p0)] [(.int (63744 : Int32)), (.int p0)])) (fun _ k => X0.ldcInt hx hown (mvT hZ (hw _ (List.mem_of_getElem? (i := 2) rfl))) (g := (mkF m 210 #[.val (.int p0)] [(.int p0)])) rfl (hb hby d2_210) _ k) ?_
                                                  refine own_iteI (fun hc212 => ?_) (fun hc212 => ?_)
                                                  · skip
                                                    refine own_pre (F' := T0.setTop (mkF m 215 #[.val (.int p0)] [])) (fun _ k => XS.icmpNo X0.here hx rfl (hb hby d2_212) rfl (tlt hc212).2.1 k) ?_
                                                    refine own_pre (F' := T0.setTop (mkF m 216 #[.val (.int p0)] [(.int (0 : Int32))])) (fun _ k => XS.iconst X0.here hx rfl (hb hby d2_215) k) ?_
                                                    exact own_ret X0 hx Bd.notSynchronized Bd.returns rfl (Or.inl ⟨rfl, by simp, _, rfl⟩) (hb hby d2_216) ⟨rfl, e0⟩ (by decide) (by decide)
                                                  · skip
                                                    refine own_pre (F' := T0.setTop (mkF m 217 #[.val (.int p0)] [])) (fun _ k => XS.icmpYes X0.here hx rfl (pc0 := 212) (pc' := 217) rfl (hb hby d2_212) rfl (flt hc212).2.1 (by decide) (by decide) k) ?_
                                                    refine own_pre (F' := T0.setTop (mkF m 218 #[.val (.int p0)] [(.int p0)])) (fun _ k => XS.iloadN X0.here hx rfl (hb hby d2_217) rfl k) ?_
                                                    refine own_pre (F' := T0.setTop (mkF m 220 #[.val (.int p0)] [(.int (64975 : Int32)), (.int p0)])) (fun _ k => X0.ldcInt hx hown (mvT hZ (hw _ (List.mem_of_getElem? (i := 3) rfl))) (g := (mkF m 218 #[.val (.int p0)] [(.int p0)])) rfl (hb hby d2_218) _ k) ?_
                                                    refine own_iteI (fun hc220 => ?_) (fun hc220 => ?_)
                                                    · skip
                                                      refine own_pre (F' := T0.setTop (mkF m 225 #[.val (.int p0)] [])) (fun _ k => XS.icmpYes X0.here hx rfl (pc0 := 220) (pc' := 225) rfl (hb hby d2_220) rfl (tlt hc220).2.2.1 (by decide) (by decide) k) ?_
                                                      refine own_pre (F' := T0.setTop (mkF m 226 #[.val (.int p0)] [(.int p0)])) (fun _ k => XS.iloadN X0.here hx rfl (hb hby d2_225) rfl k) ?_
                                                      refine own_pre (F' := T0.setTop (mkF m 228 #[.val (.int p0)] [(.int (65008 : Int32)), (.int p0)])) (fun _ k => X0.ldcInt hx hown (mvT hZ (hw _ (List.mem_of_getElem? (i := 4) rfl))) (g := (mkF m 226 #[.val (.int p0)] [(.int p0)])) rfl (hb hby d2_226) _ k) ?_
                                                      refine own_iteI (fun hc228 => ?_) (fun hc228 => ?_)
                                                      · skip
                                                        refine own_pre (F' := T0.setTop (mkF m 231 #[.val (.int p0)] [])) (fun _ k => XS.icmpNo X0.here hx rfl (hb hby d2_228) rfl (tlt hc228).2.1 k) ?_
                                                        refine own_pre (F' := T0.setTop (mkF m 232 #[.val (.int p0)] [(.int (0 : Int32))])) (fun _ k => XS.iconst X0.here hx rfl (hb hby d2_231) k) ?_
                                                        exact own_ret X0 hx Bd.notSynchronized Bd.returns rfl (Or.inl ⟨rfl, by simp, _, rfl⟩) (hb hby d2_232) ⟨rfl, e0⟩ (by decide) (by decide)
                                                      · skip
                                                        refine own_pre (F' := T0.setTop (mkF m 233 #[.val (.int p0)] [])) (fun _ k => XS.icmpYes X0.here hx rfl (pc0 := 228) (pc' := 233) rfl (hb hby d2_228) rfl (flt hc228).2.1 (by decide) (by decide) k) ?_
                                                        refine own_pre (F' := T0.setTop (mkF m 234 #[.val (.int p0)] [(.int p0)])) (fun _ k => XS.iloadN X0.here hx rfl (hb hby d2_233) rfl k) ?_
                                                        refine own_pre (F' := T0.setTop (mkF m 236 #[.val (.int p0)] [(.int (65533 : Int32)), (.int p0)])) (fun _ k => X0.ldcInt hx hown (mvT hZ (hw _ (List.mem_of_getElem? (i := 5) rfl))) (g := (mkF m 234 #[.val (.int p0)] [(.int p0)])) rfl (hb hby d2_234) _ k) ?_
                                                        refine own_iteI (fun hc236 => ?_) (fun hc236 => ?_)
                                                        · skip
                                                          refine own_pre (F' := T0.setTop (mkF m 241 #[.val (.int p0)] [])) (fun _ k => XS.icmpYes X0.here hx rfl (pc0 := 236) (pc' := 241) rfl (hb hby d2_236) rfl (tlt hc236).2.2.1 (by decide) (by decide) k) ?_
                                                          refine own_pre (F' := T0.setTop (mkF m 242 #[.val (.int p0)] [(.int p0)])) (fun _ k => XS.iloadN X0.here hx rfl (hb hby d2_241) rfl k) ?_
                                                          refine own_pre (F' := T0.setTop (mkF m 244 #[.val (.int p0)] [(.int (65536 : Int32)), (.int p0)])) (fun _ k => X0.ldcInt hx hown (mvT hZ (hw _ (List.mem_of_getElem? (i := 6) rfl))) (g := (mkF m 242 #[.val (.int p0)] [(.int p0)])) rfl (hb hby d2_242) _ k) ?_
                                                          refine own_iteI (fun hc244 => ?_) (fun hc244 => ?_)
                                                          · skip
                                                            refine own_pre (F' := T0.setTop (mkF m 247 #[.val (.int p0)] [])) (fun _ k => XS.icmpNo X0.here hx rfl (hb hby d2_244) rfl (tlt hc244).2.1 k) ?_
                                                            refine own_pre (F' := T0.setTop (mkF m 248 #[.val (.int p0)] [(.int (0 : Int32))])) (fun _ k => XS.iconst X0.here hx rfl (hb hby d2_247) k) ?_
                                                            exact own_ret X0 hx Bd.notSynchronized Bd.returns rfl (Or.inl ⟨rfl, by simp, _, rfl⟩) (hb hby d2_248) ⟨rfl, e0⟩ (by decide) (by decide)
                                                          · skip
                                                            refine own_pre (F' := T0.setTop (mkF m 249 #[.val (.int p0)] [])) (fun _ k => XS.icmpYes X0.here hx rfl (pc0 := 244) (pc' := 249) rfl (hb hby d2_244) rfl (flt hc244).2.1 (by decide) (by decide) k) ?_
                                                            refine own_pre (F' := T0.setTop (mkF m 250 #[.val (.int p0)] [(.int p0)])) (fun _ k => XS.iloadN X0.here hx rfl (hb hby d2_249) rfl k) ?_
                                                            refine own_pre (F' := T0.setTop (mkF m 252 #[.val (.int p0)] [(.int (983039 : Int32)), (.int p0)])) (fun _ k => X0.ldcInt hx hown (mvT hZ (hw _ (List.mem_of_getElem? (i := 7) rfl))) (g := (mkF m 250 #[.val (.int p0)] [(.int p0)])) rfl (hb hby d2_250) _ k) ?_
                                                            refine own_iteI (fun hc252 => ?_) (fun hc252 => ?_)
                                                            · skip
                                                              refine own_pre (F' := T0.setTop (mkF m 259 #[.val (.int p0)] [])) (fun _ k => XS.icmpYes X0.here hx rfl (pc0 := 252) (pc' := 259) rfl (hb hby d2_252) rfl (tlt hc252).2.2.1 (by decide) (by decide) k) ?_
                                                              refine own_pre (F' := T0.setTop (mkF m 260 #[.val (.int p0)] [(.int (0 : Int32))])) (fun _ k => XS.iconst X0.here hx rfl (hb hby d2_259) k) ?_
                                                              exact own_ret X0 hx Bd.notSynchronized Bd.returns rfl (Or.inl ⟨rfl, by simp, _, rfl⟩) (hb hby d2_260) ⟨rfl, e0⟩ (by decide) (by decide)
                                                            · skip
                                                              refine own_pre (F' := T0.setTop (mkF m 255 #[.val (.int p0)] [])) (fun _ k => XS.icmpNo X0.here hx rfl (hb hby d2_252) rfl (flt hc252).2.2.1 k) ?_
                                                              refine own_pre (F' := T0.setTop (mkF m 256 #[.val (.int p0)] [(.int (1 : Int32))])) (fun _ k => XS.iconst X0.here hx rfl (hb hby d2_255) k) ?_
                                                              refine own_pre (F' := T0.setTop (mkF m 260 #[.val (.int p0)] [(.int (1 : Int32))])) (fun _ k => XS.goto X0.here hx rfl (pc0 := 256) (pc' := 260) rfl (hb hby d2_256) (by decide) (by decide) k) ?_
                                                              exact own_ret X0 hx Bd.notSynchronized Bd.returns rfl (Or.inl ⟨rfl, by simp, _, rfl⟩) (hb hby d2_260) ⟨rfl, e0⟩ (by decide) (by decide)
                                                        · skip
                                                          refine own_pre (F' := T0.setTop (mkF m 239 #[.val (.int p0)] [])) (fun _ k => XS.icmpNo X0.here hx rfl (hb hby d2_236) rfl (flt hc236).2.2.1 k) ?_
                                                          refine own_pre (F' := T0.setTop (mkF m 240 #[.val (.int p0)] [(.int (1 : Int32))])) (fun _ k => XS.iconst X0.here hx rfl (hb hby d2_239) k) ?_
                                                          exact own_ret X0 hx Bd.notSynchronized Bd.returns rfl (Or.inl ⟨rfl, by simp, _, rfl⟩) (hb hby d2_240) ⟨rfl, e0⟩ (by decide) (by decide)
                                                    · skip
                                                      refine own_pre (F' := T0.setTop (mkF m 223 #[.val (.int p0)] [])) (fun _ k => XS.icmpNo X0.here hx rfl (hb hby d2_220) rfl (flt hc220).2.2.1 k) ?_
                                                      refine own_pre (F' := T0.setTop (mkF m 224 #[.val (.int p0)] [(.int (1 : Int32))])) (fun _ k => XS.iconst X0.here hx rfl (hb hby d2_223) k) ?_
                                                      exact own_ret X0 hx Bd.notSynchronized Bd.returns rfl (Or.inl ⟨rfl, by simp, _, rfl⟩) (hb hby d2_224) ⟨rfl, e0⟩ (by decide) (by decide)
                                                · skip
                                                  refine own_pre (F' := T0.setTop (mkF m 207 #[.val (.int p0)] [])) (fun _ k => XS.icmpNo X0.here hx rfl (hb hby d2_204) rfl (flt hc204).2.2.1 k) ?_
                                                  refine own_pre (F' := T0.setTop (mkF m 208 #[.val (.int p0)] [(.int (1 : Int32))])) (fun _ k => XS.iconst X0.here hx rfl (hb hby d2_207) k) ?_
                                                  exact own_ret X0 hx Bd.notSynchronized Bd.returns rfl (Or.inl ⟨rfl, by simp, _, rfl⟩) (hb hby d2_208) ⟨rfl, e0⟩ (by decide) (by decide)
                                            · skip
                                              refine own_pre (F' := T0.setTop (mkF m 190 #[.val (.int p0)] [])) (fun _ k => XS.icmpNo X0.here hx rfl (hb hby d2_187) rfl (flt hc187).2.2.1 k) ?_
                                              refine own_pre (F' := T0.setTop (mkF m 191 #[.val (.int p0)] [(.int (1 : Int32))])) (fun _ k => XS.iconst X0.here hx rfl (hb hby d2_190) k) ?_
                                              exact own_ret X0 hx Bd.notSynchronized Bd.returns rfl (Or.inl ⟨rfl, by simp, _, rfl⟩) (hb hby d2_191) ⟨rfl, e0⟩ (by decide) (by decide)
                                        · skip
                                          refine own_pre (F' := T0.setTop (mkF m 172 #[.val (.int p0)] [])) (fun _ k => XS.icmpNo X0.here hx rfl (hb hby d2_169) rfl (flt hc169).2.2.1 k) ?_
                                          refine own_pre (F' := T0.setTop (mkF m 173 #[.val (.int p0)] [(.int (1 : Int32))])) (fun _ k => XS.iconst X0.here hx rfl (hb hby d2_172) k) ?_
                                          exact own_ret X0 hx Bd.notSynchronized Bd.returns rfl (Or.inl ⟨rfl, by simp, _, rfl⟩) (hb hby d2_173) ⟨rfl, e0⟩ (by decide) (by decide)
                                    · skip
                                      refine own_pre (F' := T0.setTop (mkF m 154 #[.val (.int p0)] [])) (fun _ k => XS.icmpNo X0.here hx rfl (hb hby d2_151) rfl (flt hc151).2.2.1 k) ?_
                                      refine own_pre (F' := T0.setTop (mkF m 155 #[.val (.int p0)] [(.int (1 : Int32))])) (fun _ k => XS.iconst X0.here hx rfl (hb hby d2_154) k) ?_
                                      exact own_ret X0 hx Bd.notSynchronized Bd.returns rfl (Or.inl ⟨rfl, by simp, _, rfl⟩) (hb hby d2_155) ⟨rfl, e0⟩ (by decide) (by decide)
                                · skip
                                  refine own_pre (F' := T0.setTop (mkF m 136 #[.val (.int p0)] [])) (fun _ k => XS.icmpNo X0.here hx rfl (hb hby d2_133) rfl (flt hc133).2.2.1 k) ?_
                                  refine own_pre (F' := T0.setTop (mkF m 137 #[.val (.int p0)] [(.int (1 : Int32))])) (fun _ k => XS.iconst X0.here hx rfl (hb hby d2_136) k) ?_
                                  exact own_ret X0 hx Bd.notSynchronized Bd.returns rfl (Or.inl ⟨rfl, by simp, _, rfl⟩) (hb hby d2_137) ⟨rfl, e0⟩ (by decide) (by decide)
                            · skip
                              refine own_pre (F' := T0.setTop (mkF m 118 #[.val (.int p0)] [])) (fun _ k => XS.icmpNo X0.here hx rfl (hb hby d2_115) rfl (flt hc115).2.2.1 k) ?_
                              refine own_pre (F' := T0.setTop (mkF m 119 #[.val (.int p0)] [(.int (1 : Int32))])) (fun _ k => XS.iconst X0.here hx rfl (hb hby d2_118) k) ?_
                              exact own_ret X0 hx Bd.notSynchronized Bd.returns rfl (Or.inl ⟨rfl, by simp, _, rfl⟩) (hb hby d2_119) ⟨rfl, e0⟩ (by decide) (by decide)
                        · skip
                          refine own_pre (F' := T0.setTop (mkF m 100 #[.val (.int p0)] [])) (fun _ k => XS.icmpNo X0.here hx rfl (hb hby d2_97) rfl (flt hc97).2.2.1 k) ?_
                          refine own_pre (F' := T0.setTop (mkF m 101 #[.val (.int p0)] [(.int (1 : Int32))])) (fun _ k => XS.iconst X0.here hx rfl (hb hby d2_100) k) ?_
                          exact own_ret X0 hx Bd.notSynchronized Bd.returns rfl (Or.inl ⟨rfl, by simp, _, rfl⟩) (hb hby d2_101) ⟨rfl, e0⟩ (by decide) (by decide)
                    · skip
                      refine own_pre (F' := T0.setTop (mkF m 82 #[.val (.int p0)] [])) (fun _ k => XS.icmpNo X0.here hx rfl (hb hby d2_79) rfl (flt hc79).2.2.1 k) ?_
                      refine own_pre (F' := T0.setTop (mkF m 83 #[.val (.int p0)] [(.int (1 : Int32))])) (fun _ k => XS.iconst X0.here hx rfl (hb hby d2_82) k) ?_
                      exact own_ret X0 hx Bd.notSynchronized Bd.returns rfl (Or.inl ⟨rfl, by simp, _, rfl⟩) (hb hby d2_83) ⟨rfl, e0⟩ (by decide) (by decide)
                · skip
                  refine own_pre (F' := T0.setTop (mkF m 64 #[.val (.int p0)] [])) (fun _ k => XS.icmpNo X0.here hx rfl (hb hby d2_61) rfl (flt hc61).2.2.1 k) ?_
                  refine own_pre (F' := T0.setTop (mkF m 65 #[.val (.int p0)] [(.int (1 : Int32))])) (fun _ k => XS.iconst X0.here hx rfl (hb hby d2_64) k) ?_
                  exact own_ret X0 hx Bd.notSynchronized Bd.returns rfl (Or.inl ⟨rfl, by simp, _, rfl⟩) (hb hby d2_65) ⟨rfl, e0⟩ (by decide) (by decide)
            · skip
              refine own_pre (F' := T0.setTop (mkF m 46 #[.val (.int p0)] [])) (fun _ k => XS.icmpNo X0.here hx rfl (hb hby d2_43) rfl (flt hc43).2.2.1 k) ?_
              refine own_pre (F' := T0.setTop (mkF m 47 #[.val (.int p0)] [(.int (1 : Int32))])) (fun _ k => XS.iconst X0.here hx rfl (hb hby d2_46) k) ?_
              exact own_ret X0 hx Bd.notSynchronized Bd.returns rfl (Or.inl ⟨rfl, by simp, _, rfl⟩) (hb hby d2_47) ⟨rfl, e0⟩ (by decide) (by decide)
    · skip
      refine own_pre (F' := T0.setTop (mkF m 14 #[.val (.int p0)] [])) (fun _ k => XS.icmpNo X0.here hx rfl (hb hby d2_11) rfl (flt hc11).2.2.1 k) ?_
      refine own_pre (F' := T0.setTop (mkF m 15 #[.val (.int p0)] [(.int (1 : Int32))])) (fun _ k => XS.iconst X0.here hx rfl (hb hby d2_14) k) ?_
      exact own_ret X0 hx Bd.notSynchronized Bd.returns rfl (Or.inl ⟨rfl, by simp, _, rfl⟩) (hb hby d2_15) ⟨rfl, e0⟩ (by decide) (by decide)
theorem ef_2 (m : MethodId) (p0 : Int32) : entryFrame m #[(.int p0)] 1 = mkF m 0 #[.val (.int p0)] [] := by first | (simp [entryFrame, mkF, argsToLocals, Value.category]; done) | rfl
set_option maxRecDepth 65536 in
set_option maxHeartbeats 40000000 in
theorem rm2 (l : Launch) (Z : State) (aw : Array Value) (hw : ∀ d ∈ tables_1, d.before aw Z = true) (ws : List Jvm.Cond) (p0 : Int32) (h0 : Heap) :
    MetFree l (⟨"com/example/tsugiki/tsugiki/xml/XmlNamesIsNameStartCharPinLaw", "ref", "(I)Z"⟩ : MethodName) (head1 (Jvm.Cond.code (⟨"com/example/tsugiki/tsugiki/xml/XmlNamesIsNameStartCharPinLaw", "ref", "(I)Z"⟩ : MethodName) method_2_code 1 (some .boolean) :: ws) ({ frames := 0, cells := 0, slots := 0, locals := 0 } : Room)) (fun a U => a = #[(.int p0)] ∧ Z.Warmed39 U.vm ∧ U.heap = h0) (fun _ _ _ _ _ => True) (fun _ U o U' => ∃ v L, o = .returned v ∧ own_Q (some (.int (f2_0 p0))) (own_K0 h0) v U'.heap L ∧ FrameEnd U o U' L ({ frames := 0, cells := 0, slots := 0, locals := 0 } : Room).cells ({ frames := 0, cells := 0, slots := 0, locals := 0 } : Room).slots) := by
  refine MetFree.of_bodySF (plainFor_of_name own_pn1) hisR ?_
  intro p e s m args below meth c s₁ Bd hml0 hP hK
  obtain ⟨rfl, hZ, hh⟩ := hP
  have hml : c.maxLocals = 1 := hml0
  have e0 : s₁.heap = h0 := by rw [← hh, Bd.state]; rfl
  exact own_pre (fun t k => castTop (ef_2 m p0) k) (g2_0 hw p0 Bd hml hZ s₁ (Stand.of_body Bd) e0)
def own_edges : List Int32 := [65, 90, 95, 97, 122, 192, 214, 216, 246, 248, 767, 880, 893, 895, 8191, 8204, 8205, 8304, 8591, 11264, 12271, 12289, 55295, 63744, 64975, 65008, 65533, 65536, 983039]
def own_edge (j : Int32) : Int32 := own_edges.getD j.toNatClampNeg 0
theorem own_at (j : Int32) : ([(.int (65 : Int32)), (.int (90 : Int32)), (.int (95 : Int32)), (.int (97 : Int32)), (.int (122 : Int32)), (.int (192 : Int32)), (.int (214 : Int32)), (.int (216 : Int32)), (.int (246 : Int32)), (.int (248 : Int32)), (.int (767 : Int32)), (.int (880 : Int32)), (.int (893 : Int32)), (.int (895 : Int32)), (.int (8191 : Int32)), (.int (8204 : Int32)), (.int (8205 : Int32)), (.int (8304 : Int32)), (.int (8591 : Int32)), (.int (11264 : Int32)), (.int (12271 : Int32)), (.int (12289 : Int32)), (.int (55295 : Int32)), (.int (63744 : Int32)), (.int (64975 : Int32)), (.int (65008 : Int32)), (.int (65533 : Int32)), (.int (65536 : Int32)), (.int (983039 : Int32))] : List Value).getD j.toNatClampNeg (.int (0 : Int32)) = .int (own_edge j) := by
  show (own_edges.map Value.int).getD j.toNatClampNeg (Value.int 0) = _
  unfold own_edge
  simp only [List.getD_eq_getElem?_getD, List.getElem?_map]
  cases own_edges[j.toNatClampNeg]? <;> rfl
theorem own_in (k : Int32) : ¬ ((k &&& (2147483647 : Int32)) % (29 : Int32)) < 0 ∧ ((k &&& (2147483647 : Int32)) % (29 : Int32)) < 29 := by
  have hm := c_mask k 2147483647 31 (by decide) (by decide)
  have hr := (c_irem (k &&& 2147483647) 29 29 (by decide)).1 (by omega)
  rw [Int32.lt_iff_toInt_lt, Int32.lt_iff_toInt_lt, show (0 : Int32).toInt = 0 from rfl, show (29 : Int32).toInt = 29 from rfl]
  omega
theorem own_pd0 : parseMethodDescriptor "(I)Z" = some ⟨[.int], some .boolean⟩ := by decide +kernel
/-! body 0 -/
def R0 (t : Int32) : Option Value := some (.int t)
def K0 (Z : State)  (h0 : Heap) (n0 : Nat) (t : Int32) (h : Heap) (L : List Loc) : Prop := Fr n0 L
def f0_262 (p0 : Int32) (p1 : Int32) (p2 : Int32) : Int32 := (0 : Int32)
set_option maxRecDepth 65536 in
set_option maxHeartbeats 40000000 in
theorem g0_262 {p : Program} {l : Launch} {e : Env} {s : State} {m : MethodId} {below : List Frame} {meth : Method} {c : Code} {s₁ : State} {ws : List Jvm.Cond} {Z : State} {aw : Array Value} (hw : ∀ d ∈ tables_1, d.before aw Z = true) {h0 : Heap} {n0 : Nat} (p0 : Int32) (p1 : Int32) (p2 : Int32)  (x3 : Addr) (x4 : Int32) (x5 : Int32) (x6 : Int32)
    (Bd : BodyLoose p l x (head1 (Jvm.Cond.code x code maxLocals ret :: ws) room_1) code maxLocals ret e s m #[(.int p0), (.int p1), (.int p2)] below meth c s₁) (hml : c.maxLocals = 7) (hZ : Z.Warmed39 s.vm) (T0 : State) {locs : List Loc} (X0 : Stand p l e room_1 s m #[(.int p0), (.int p1), (.int p2)] below meth c T0 locs 1 29) {h : Heap} (e0 : T0.heap = h) (SZ0 : n0 ≤ h.size) (NF0 : Fr n0 locs) :
    own_Go p e below s room_1.cells room_1.slots (R0 (f0_262 p0 p1 p2)) (K0 Z  h0 n0 (f0_262 p0 p1 p2)) (T0.setTop (mkF m 262 #[.val (.int p0), .val (.int p1), .val (.int p2), .val (.ref x3), .val (.int x4), .val (.int x5), .val (.int x6)] [])) := by
  have hx := Bd.exec
  have hby := Bd.bytes
  have hown : s.vm.findClass "com/example/tsugiki/tsugiki/xml/XmlNamesIsNameStartCharPinLaw" = some m.cls := findClass_of_methodNamed Bd.named
  have hnm := (name_of_methodNamed Bd.named Bd.method).1
  unfold f0_262
  refine own_pre (F' := T0.setTop (mkF m 263 #[.val (.int p0), .val (.int p1), .val (.int p2), .val (.ref x3), .val (.int x4), .val (.int x5), .val (.int x6)] [(.int (0 : Int32))])) (fun _ k => XS.iconst X0.here hx rfl (hb hby at_262) k) ?_
  exact own_ret (w := (.int (0 : Int32))) X0 hx Bd.notSynchronized Bd.returns rfl (Or.inl ⟨rfl, by simp, _, rfl⟩) (hb hby at_263) (by rw [e0]; exact NF0) (by decide) (by decide)
def f0_246 (p0 : Int32) (p1 : Int32) (p2 : Int32) (x5 : Int32) (y0 : Int32) : Int32 := (if x5 = (0 : Int32) then (f0_262 p0 p1 p2) else (if y0 = (0 : Int32) then (f0_262 p0 p1 p2) else (1 : Int32)))
set_option maxRecDepth 65536 in
set_option maxHeartbeats 40000000 in
theorem g0_246 {p : Program} {l : Launch} {e : Env} {s : State} {m : MethodId} {below : List Frame} {meth : Method} {c : Code} {s₁ : State} {ws : List Jvm.Cond} {Z : State} {aw : Array Value} (hw : ∀ d ∈ tables_1, d.before aw Z = true) {h0 : Heap} {n0 : Nat} (p0 : Int32) (p1 : Int32) (p2 : Int32)  (x3 : Addr) (x4 : Int32) (x5 : Int32) (y0 : Int32)
    (Bd : BodyLoose p l x (head1 (Jvm.Cond.code x code maxLocals ret :: ws) room_1) code maxLocals ret e s m #[(.int p0), (.int p1), (.int p2)] below meth c s₁) (hml : c.maxLocals = 7) (hZ : Z.Warmed39 s.vm) (T0 : State) {locs : List Loc} (X0 : Stand p l e room_1 s m #[(.int p0), (.int p1), (.int p2)] below meth c T0 locs 1 29) {h : Heap} (e0 : T0.heap = h) (SZ0 : n0 ≤ h.size) (NF0 : Fr n0 locs) :
    own_Go p e below s room_1.cells room_1.slots (R0 (f0_246 p0 p1 p2 x5 y0)) (K0 Z  h0 n0 (f0_246 p0 p1 p2 x5 y0)) (T0.setTop (mkF m 246 #[.val (.int p0), .val (.int p1), .val (.int p2), .val (.ref x3), .val (.int x4), .val (.int x5), .unset] [(.int y0)])) := by
  have hx := Bd.exec
  have hby := Bd.bytes
  have hown : s.vm.findClass "com/example/tsugiki/tsugiki/xml/XmlNamesIsNameStartCharPinLaw" = some m.cls := findClass_of_methodNamed Bd.named
  have hnm := (name_of_methodNamed Bd.named Bd.method).1
  unfold f0_246
  refine own_pre (F' := T0.setTop (mkF m 248 #[.val (.int p0), .val (.int p1), .val (.int p2), .val (.ref x3), .val (.int x4), .val (.int x5), .val (.int y0)] [])) (fun _ k => XS.istore X0.here hx rfl (hb hby at_246) rfl (l' := #[.val (.int p0), .val (.int p1), .val (.int p2), .val (.ref x3), .val (.int x4), .val (.int x5), .val (.int y0)]) rfl k) ?_
  refine own_pre (F' := T0.setTop (mkF m 250 #[.val (.int p0), .val (.int p1), .val (.int p2), .val (.ref x3), .val (.int x4), .val (.int x5), .val (.int y0)] [(.int x5)])) (fun _ k => XS.iload X0.here hx rfl (hb hby at_248) rfl k) ?_
  refine own_iteT R0 (K0 Z  h0 n0) (fun hc250 => ?_) (fun hc250 => ?_)
  · skip
    refine own_pre (F' := T0.setTop (mkF m 262 #[.val (.int p0), .val (.int p1), .val (.int p2), .val (.ref x3), .val (.int x4), .val (.int x5), .val (.int y0)] [])) (fun _ k => XS.ifYes X0.here hx rfl (pc0 := 250) (pc' := 262) rfl (hb hby at_250) rfl ((if0 _ _).trans (teq hc250).1) (by decide) (by decide) k) ?_
    exact g0_262 hw p0 p1 p2  x3 x4 x5 y0 Bd hml hZ T0 X0 e0 SZ0 NF0
  · skip
    refine own_pre (F' := T0.setTop (mkF m 253 #[.val (.int p0), .val (.int p1), .val (.int p2), .val (.ref x3), .val (.int x4), .val (.int x5), .val (.int y0)] [])) (fun _ k => XS.ifNo X0.here hx rfl (hb hby at_250) rfl ((if0 _ _).trans (feq hc250).1) k) ?_
    refine own_pre (F' := T0.setTop (mkF m 255 #[.val (.int p0), .val (.int p1), .val (.int p2), .val (.ref x3), .val (.int x4), .val (.int x5), .val (.int y0)] [(.int y0)])) (fun _ k => XS.iload X0.here hx rfl (hb hby at_253) rfl k) ?_
    refine own_iteT R0 (K0 Z  h0 n0) (fun hc255 => ?_) (fun hc255 => ?_)
    · skip
      refine own_pre (F' := T0.setTop (mkF m 262 #[.val (.int p0), .val (.int p1), .val (.int p2), .val (.ref x3), .val (.int x4), .val (.int x5), .val (.int y0)] [])) (fun _ k => XS.ifYes X0.here hx rfl (pc0 := 255) (pc' := 262) rfl (hb hby at_255) rfl ((if0 _ _).trans (teq hc255).1) (by decide) (by decide) k) ?_
      exact g0_262 hw p0 p1 p2  x3 x4 x5 y0 Bd hml hZ T0 X0 e0 SZ0 NF0
    · skip
      refine own_pre (F' := T0.setTop (mkF m 258 #[.val (.int p0), .val (.int p1), .val (.int p2), .val (.ref x3), .val (.int x4), .val (.int x5), .val (.int y0)] [])) (fun _ k => XS.ifNo X0.here hx rfl (hb hby at_255) rfl ((if0 _ _).trans (feq hc255).1) k) ?_
      refine own_pre (F' := T0.setTop (mkF m 259 #[.val (.int p0), .val (.int p1), .val (.int p2), .val (.ref x3), .val (.int x4), .val (.int x5), .val (.int y0)] [(.int (1 : Int32))])) (fun _ k => XS.iconst X0.here hx rfl (hb hby at_258) k) ?_
      refine own_pre (F' := T0.setTop (mkF m 263 #[.val (.int p0), .val (.int p1), .val (.int p2), .val (.ref x3), .val (.int x4), .val (.int x5), .val (.int y0)] [(.int (1 : Int32))])) (fun _ k => XS.goto X0.here hx rfl (pc0 := 259) (pc' := 263) rfl (hb hby at_259) (by decide) (by decide) k) ?_
      exact own_ret (w := (.int (1 : Int32))) X0 hx Bd.notSynchronized Bd.returns rfl (Or.inl ⟨rfl, by simp, _, rfl⟩) (hb hby at_263) (by rw [e0]; exact NF0) (by decide) (by decide)
def f0_226 (p0 : Int32) (p1 : Int32) (p2 : Int32) (x4 : Int32) (y0 : Int32) : Int32 := (if (f1_0 x4) = (f2_0 x4) then (f0_246 p0 p1 p2 y0 (1 : Int32)) else (f0_246 p0 p1 p2 y0 (0 : Int32)))
set_option maxRecDepth 65536 in
set_option maxHeartbeats 40000000 in
theorem g0_226 {p : Program} {l : Launch} {e : Env} {s : State} {m : MethodId} {below : List Frame} {meth : Method} {c : Code} {s₁ : State} {ws : List Jvm.Cond} {Z : State} {aw : Array Value} (hw : ∀ d ∈ tables_1, d.before aw Z = true) {h0 : Heap} {n0 : Nat} (p0 : Int32) (p1 : Int32) (p2 : Int32)  (x3 : Addr) (x4 : Int32) (y0 : Int32)
    (Bd : BodyLoose p l x (head1 (Jvm.Cond.code x code maxLocals ret :: ws) room_1) code maxLocals ret e s m #[(.int p0), (.int p1), (.int p2)] below meth c s₁) (hml : c.maxLocals = 7) (hZ : Z.Warmed39 s.vm) (T0 : State) {locs : List Loc} (X0 : Stand p l e room_1 s m #[(.int p0), (.int p1), (.int p2)] below meth c T0 locs 1 29) {h : Heap} (e0 : T0.heap = h) (SZ0 : n0 ≤ h.size) (NF0 : Fr n0 locs) :
    own_Go p e below s room_1.cells room_1.slots (R0 (f0_226 p0 p1 p2 x4 y0)) (K0 Z  h0 n0 (f0_226 p0 p1 p2 x4 y0)) (T0.setTop (mkF m 226 #[.val (.int p0), .val (.int p1), .val (.int p2), .val (.ref x3), .val (.int x4), .unset, .unset] [(.int y0)])) := by
  have hx := Bd.exec
  have hby := Bd.bytes
  have hown : s.vm.findClass "com/example/tsugiki/tsugiki/xml/XmlNamesIsNameStartCharPinLaw" = some m.cls := findClass_of_methodNamed Bd.named
  have hnm := (name_of_methodNamed Bd.named Bd.method).1
  unfold f0_226
  refine own_pre (F' := T0.setTop (mkF m 228 #[.val (.int p0), .val (.int p1), .val (.int p2), .val (.ref x3), .val (.int x4), .val (.int y0), .unset] [])) (fun _ k => XS.istore X0.here hx rfl (hb hby at_226) rfl (l' := #[.val (.int p0), .val (.int p1), .val (.int p2), .val (.ref x3), .val (.int x4), .val (.int y0), .unset]) rfl k) ?_
  refine own_pre (F' := T0.setTop (mkF m 230 #[.val (.int p0), .val (.int p1), .val (.int p2), .val (.ref x3), .val (.int x4), .val (.int y0), .unset] [(.int x4)])) (fun _ k => XS.iload X0.here hx rfl (hb hby at_228) rfl k) ?_
  obtain ⟨_, _, ⟨T1, L1, k1, n1⟩, -, X1', ⟨Lc1, hQ1, l1, y1, z1⟩, st'⟩ := Jvm.LawKit.callS X0 hx (y := (⟨"com/example/tsugiki/tsugiki/xml/XmlNames", "isNameStartChar", "(I)Z"⟩ : MethodName)) hown (mvT hZ (hw _ (List.mem_of_getElem? (i := 9) rfl))) (mvT hZ (hw _ (List.mem_of_getElem? (i := 10) rfl))) (mvT hZ (hw _ (List.mem_of_getElem? (i := 11) rfl))) (mvT hZ (hw _ (List.mem_of_getElem? (i := 12) rfl))) (by decide) (backOf (W := 0) (rm1 l Z aw hw [] x4 h) hZ (hw _ (List.mem_of_getElem? (i := 12) rfl)) (hw _ (List.mem_of_getElem? (i := 11) rfl)) (by decide) (by decide)) (g := (mkF m 230 #[.val (.int p0), .val (.int p1), .val (.int p2), .val (.ref x3), .val (.int x4), .val (.int y0), .unset] [(.int x4)])) rfl (by rw [hml]; rfl) (argsL := [(.int x4)]) (rest := []) (lenOf own_pd0 rfl) rfl (by show 2 * 0 + _ ≤ _; exact Nat.le_of_eq rfl) (hb hby at_230) (fun _ _ => ⟨rfl, e0, (by decide : 1 + 0 ≤ _), (by decide : 29 + 0 ≤ _)⟩)
  dsimp only [Pt.U, Pt.locs, Pt.cells, Pt.slots] at X1' l1 y1 z1 st' hQ1
  subst l1 y1 z1
  obtain ⟨rfl, rfl, e1⟩ := hQ1
  have X1 : Stand p l e room_1 s m #[(.int p0), (.int p1), (.int p2)] below meth c T1 _ 1 29 := own_locs X1'
  refine own_pre (F' := T1.setTop (mkF m 233 #[.val (.int p0), .val (.int p1), .val (.int p2), .val (.ref x3), .val (.int x4), .val (.int y0), .unset] [(.int (f1_0 x4))])) (fun t k => st' t k) ?_
  refine own_pre (F' := T1.setTop (mkF m 235 #[.val (.int p0), .val (.int p1), .val (.int p2), .val (.ref x3), .val (.int x4), .val (.int y0), .unset] [(.int x4), (.int (f1_0 x4))])) (fun _ k => XS.iload X1.here hx rfl (hb hby at_233) rfl k) ?_
  obtain ⟨_, _, ⟨T2, L2, k2, n2⟩, -, X2', ⟨Lc2, hQ2, l2, y2, z2⟩, st'⟩ := Jvm.LawKit.callS X1 hx (y := (⟨"com/example/tsugiki/tsugiki/xml/XmlNamesIsNameStartCharPinLaw", "ref", "(I)Z"⟩ : MethodName)) hown (mvT hZ (hw _ (List.mem_of_getElem? (i := 16) rfl))) (mvT hZ (hw _ (List.mem_of_getElem? (i := 17) rfl))) (mvT hZ (hw _ (List.mem_of_getElem? (i := 18) rfl))) (mvT hZ (hw _ (List.mem_of_getElem? (i := 19) rfl))) (by decide) (backOf (W := 1) (rm2 l Z aw hw [] x4 h) hZ (hw _ (List.mem_of_getElem? (i := 19) rfl)) (hw _ (List.mem_of_getElem? (i := 18) rfl)) (by decide) (by decide)) (g := (mkF m 235 #[.val (.int p0), .val (.int p1), .val (.int p2), .val (.ref x3), .val (.int x4), .val (.int y0), .unset] [(.int x4), (.int (f1_0 x4))])) rfl (by rw [hml]; rfl) (argsL := [(.int x4)]) (rest := [(.int (f1_0 x4))]) (lenOf own_pd0 rfl) rfl (by show 2 * 0 + _ ≤ _; exact Nat.le_of_eq rfl) (hb hby at_235) (fun _ _ => ⟨rfl, e1, (by decide : 1 + 0 ≤ _), (by decide : 29 + 0 ≤ _)⟩)
  dsimp only [Pt.U, Pt.locs, Pt.cells, Pt.slots] at X2' l2 y2 z2 st' hQ2
  subst l2 y2 z2
  obtain ⟨rfl, rfl, e2⟩ := hQ2
  have X2 : Stand p l e room_1 s m #[(.int p0), (.int p1), (.int p2)] below meth c T2 _ 1 29 := own_locs X2'
  refine own_pre (F' := T2.setTop (mkF m 238 #[.val (.int p0), .val (.int p1), .val (.int p2), .val (.ref x3), .val (.int x4), .val (.int y0), .unset] [(.int (f2_0 x4)), (.int (f1_0 x4))])) (fun t k => st' t k) ?_
  refine own_iteT R0 (K0 Z  h0 n0) (fun hc238 => ?_) (fun hc238 => ?_)
  · skip
    refine own_pre (F' := T2.setTop (mkF m 241 #[.val (.int p0), .val (.int p1), .val (.int p2), .val (.ref x3), .val (.int x4), .val (.int y0), .unset] [])) (fun _ k => XS.icmpNo X2.here hx rfl (hb hby at_238) rfl (teq hc238).2 k) ?_
    refine own_pre (F' := T2.setTop (mkF m 242 #[.val (.int p0), .val (.int p1), .val (.int p2), .val (.ref x3), .val (.int x4), .val (.int y0), .unset] [(.int (1 : Int32))])) (fun _ k => XS.iconst X2.here hx rfl (hb hby at_241) k) ?_
    refine own_pre (F' := T2.setTop (mkF m 246 #[.val (.int p0), .val (.int p1), .val (.int p2), .val (.ref x3), .val (.int x4), .val (.int y0), .unset] [(.int (1 : Int32))])) (fun _ k => XS.goto X2.here hx rfl (pc0 := 242) (pc' := 246) rfl (hb hby at_242) (by decide) (by decide) k) ?_
    exact g0_246 hw p0 p1 p2  x3 x4 y0 (1 : Int32) Bd hml hZ T2 X2 e2 SZ0 NF0
  · skip
    refine own_pre (F' := T2.setTop (mkF m 245 #[.val (.int p0), .val (.int p1), .val (.int p2), .val (.ref x3), .val (.int x4), .val (.int y0), .unset] [])) (fun _ k => XS.icmpYes X2.here hx rfl (pc0 := 238) (pc' := 245) rfl (hb hby at_238) rfl (feq hc238).2 (by decide) (by decide) k) ?_
    refine own_pre (F' := T2.setTop (mkF m 246 #[.val (.int p0), .val (.int p1), .val (.int p2), .val (.ref x3), .val (.int x4), .val (.int y0), .unset] [(.int (0 : Int32))])) (fun _ k => XS.iconst X2.here hx rfl (hb hby at_245) k) ?_
    exact g0_246 hw p0 p1 p2  x3 x4 y0 (0 : Int32) Bd hml hZ T2 X2 e2 SZ0 NF0
def f0_0 (p0 : Int32) (p1 : Int32) (p2 : Int32) : Int32 := (if (f1_0 p0) = (f2_0 p0) then (f0_226 p0 p1 p2 (((own_edge ((p1 &&& (2147483647 : Int32)) % (29 : Int32))) + ((p2 &&& (2147483647 : Int32)) % (5 : Int32))) - (2 : Int32)) (1 : Int32)) else (f0_226 p0 p1 p2 (((own_edge ((p1 &&& (2147483647 : Int32)) % (29 : Int32))) + ((p2 &&& (2147483647 : Int32)) % (5 : Int32))) - (2 : Int32)) (0 : Int32)))
set_option maxRecDepth 65536 in
set_option maxHeartbeats 40000000 in
theorem g0_0 {p : Program} {l : Launch} {e : Env} {s : State} {m : MethodId} {below : List Frame} {meth : Method} {c : Code} {s₁ : State} {ws : List Jvm.Cond} {Z : State} {aw : Array Value} (hw : ∀ d ∈ tables_1, d.before aw Z = true) {h0 : Heap} {n0 : Nat} (p0 : Int32) (p1 : Int32) (p2 : Int32) 
    (Bd : BodyLoose p l x (head1 (Jvm.Cond.code x code maxLocals ret :: ws) room_1) code maxLocals ret e s m #[(.int p0), (.int p1), (.int p2)] below meth c s₁) (hml : c.maxLocals = 7) (hZ : Z.Warmed39 s.vm) (T0 : State) {locs : List Loc} (X0 : Stand p l e room_1 s m #[(.int p0), (.int p1), (.int p2)] below meth c T0 locs 0 0) (e0 : T0.heap = h0) (SZ0 : n0 ≤ h0.size) (NF0 : Fr n0 locs) :
    own_Go p e below s room_1.cells room_1.slots (R0 (f0_0 p0 p1 p2)) (K0 Z  h0 n0 (f0_0 p0 p1 p2)) (T0.setTop (mkF m 0 #[.val (.int p0), .val (.int p1), .val (.int p2), .unset, .unset, .unset, .unset] [])) := by
  have hx := Bd.exec
  have hby := Bd.bytes
  have hown : s.vm.findClass "com/example/tsugiki/tsugiki/xml/XmlNamesIsNameStartCharPinLaw" = some m.cls := findClass_of_methodNamed Bd.named
  have hnm := (name_of_methodNamed Bd.named Bd.method).1
  unfold f0_0
  refine own_pre (F' := T0.setTop (mkF m 2 #[.val (.int p0), .val (.int p1), .val (.int p2), .unset, .unset, .unset, .unset] [(.int (29 : Int32))])) (fun _ k => XS.bipush X0.here hx rfl (hb hby at_0) k) ?_
  obtain ⟨T1, h1, k1, X1, e1, E1, A1, st'⟩ := newP X0 hx hZ (hw _ (List.mem_of_getElem? (i := 0) rfl)) e0 (g := (mkF m 2 #[.val (.int p0), .val (.int p1), .val (.int p2), .unset, .unset, .unset, .unset] [(.int (29 : Int32))])) rfl (hb hby at_2) rfl (by decide) (cap := 29) (by decide) (by decide) (by decide) (by decide)
  obtain ⟨b1, g1⟩ : ∃ z, z = h0.size := ⟨_, rfl⟩
  rw [← g1] at A1 st'
  have g_b1 : n0 ≤ b1 := Nat.le_trans SZ0 (Nat.le_of_eq g1.symm)
  have SZ1 : n0 ≤ h1.size := Nat.le_trans SZ0 E1.1
  have f2 : Arv Z h1 b1 k1 .int (29 : Int32) [(.int (0 : Int32)), (.int (0 : Int32)), (.int (0 : Int32)), (.int (0 : Int32)), (.int (0 : Int32)), (.int (0 : Int32)), (.int (0 : Int32)), (.int (0 : Int32)), (.int (0 : Int32)), (.int (0 : Int32)), (.int (0 : Int32)), (.int (0 : Int32)), (.int (0 : Int32)), (.int (0 : Int32)), (.int (0 : Int32)), (.int (0 : Int32)), (.int (0 : Int32)), (.int (0 : Int32)), (.int (0 : Int32)), (.int (0 : Int32)), (.int (0 : Int32)), (.int (0 : Int32)), (.int (0 : Int32)), (.int (0 : Int32)), (.int (0 : Int32)), (.int (0 : Int32)), (.int (0 : Int32)), (.int (0 : Int32)), (.int (0 : Int32))] (.int (0 : Int32)) := (Arv.new A1 (by decide)).pad (pad_rep [] (.int (0 : Int32)) 29)
  refine own_pre (F' := T1.setTop (mkF m 4 #[.val (.int p0), .val (.int p1), .val (.int p2), .unset, .unset, .unset, .unset] [(.ref b1)])) (fun t k => st' t k) ?_
  refine own_pre (F' := T1.setTop (mkF m 5 #[.val (.int p0), .val (.int p1), .val (.int p2), .unset, .unset, .unset, .unset] [(.ref b1), (.ref b1)])) (fun _ k => XS.dup X1.here hx rfl (hb hby at_4) rfl rfl k) ?_
  refine own_pre (F' := T1.setTop (mkF m 6 #[.val (.int p0), .val (.int p1), .val (.int p2), .unset, .unset, .unset, .unset] [(.int (0 : Int32)), (.ref b1), (.ref b1)])) (fun _ k => XS.iconst X1.here hx rfl (hb hby at_5) k) ?_
  refine own_pre (F' := T1.setTop (mkF m 8 #[.val (.int p0), .val (.int p1), .val (.int p2), .unset, .unset, .unset, .unset] [(.int (65 : Int32)), (.int (0 : Int32)), (.ref b1), (.ref b1)])) (fun _ k => XS.bipush X1.here hx rfl (hb hby at_6) k) ?_
  obtain ⟨cl3, Ar3, q3, S3, N3, H3, G3⟩ := f2
  have hin3 : ¬ ((0 : Int32) < 0 ∨ cl3.slots.size ≤ ((0 : Int32)).toNatClampNeg) := inb_of S3 ⟨by decide, by decide⟩
  obtain ⟨T3, h3, X3, e3, W3, st'⟩ := stI X1 hx hZ e1 Ar3 (j := (0 : Int32)) hin3 (g := (mkF m 8 #[.val (.int p0), .val (.int p1), .val (.int p2), .unset, .unset, .unset, .unset] [(.int (65 : Int32)), (.int (0 : Int32)), (.ref b1), (.ref b1)])) rfl rfl (hb hby at_8)
  have f4 : Arv Z h3 b1 k1 .int (29 : Int32) [(.int (65 : Int32)), (.int (0 : Int32)), (.int (0 : Int32)), (.int (0 : Int32)), (.int (0 : Int32)), (.int (0 : Int32)), (.int (0 : Int32)), (.int (0 : Int32)), (.int (0 : Int32)), (.int (0 : Int32)), (.int (0 : Int32)), (.int (0 : Int32)), (.int (0 : Int32)), (.int (0 : Int32)), (.int (0 : Int32)), (.int (0 : Int32)), (.int (0 : Int32)), (.int (0 : Int32)), (.int (0 : Int32)), (.int (0 : Int32)), (.int (0 : Int32)), (.int (0 : Int32)), (.int (0 : Int32)), (.int (0 : Int32)), (.int (0 : Int32)), (.int (0 : Int32)), (.int (0 : Int32)), (.int (0 : Int32)), (.int (0 : Int32))] (.int (0 : Int32)) := Arv.set Ar3 q3 S3 N3 H3 G3 rfl W3 0 rfl (Nat.le_of_ble_eq_true rfl)
  have NF3 := Fr.snoc X3 NF0 g_b1
  have SZ3 : n0 ≤ h3.size := (Nat.le_trans SZ1 (Keep.of_wr W3).1)
  refine own_pre (F' := T3.setTop (mkF m 9 #[.val (.int p0), .val (.int p1), .val (.int p2), .unset, .unset, .unset, .unset] [(.ref b1)])) (fun t k => st' t k) ?_
  refine own_pre (F' := T3.setTop (mkF m 10 #[.val (.int p0), .val (.int p1), .val (.int p2), .unset, .unset, .unset, .unset] [(.ref b1), (.ref b1)])) (fun _ k => XS.dup X3.here hx rfl (hb hby at_9) rfl rfl k) ?_
  refine own_pre (F' := T3.setTop (mkF m 11 #[.val (.int p0), .val (.int p1), .val (.int p2), .unset, .unset, .unset, .unset] [(.int (1 : Int32)), (.ref b1), (.ref b1)])) (fun _ k => XS.iconst X3.here hx rfl (hb hby at_10) k) ?_
  refine own_pre (F' := T3.setTop (mkF m 13 #[.val (.int p0), .val (.int p1), .val (.int p2), .unset, .unset, .unset, .unset] [(.int (90 : Int32)), (.int (1 : Int32)), (.ref b1), (.ref b1)])) (fun _ k => XS.bipush X3.here hx rfl (hb hby at_11) k) ?_
  obtain ⟨cl5, Ar5, q5, S5, N5, H5, G5⟩ := f4
  have hin5 : ¬ ((1 : Int32) < 0 ∨ cl5.slots.size ≤ ((1 : Int32)).toNatClampNeg) := inb_of S5 ⟨by decide, by decide⟩
  obtain ⟨T5, h5, X5, e5, W5, st'⟩ := stI X3 hx hZ e3 Ar5 (j := (1 : Int32)) hin5 (g := (mkF m 13 #[.val (.int p0), .val (.int p1), .val (.int p2), .unset, .unset, .unset, .unset] [(.int (90 : Int32)), (.int (1 : Int32)), (.ref b1), (.ref b1)])) rfl rfl (hb hby at_13)
  have f6 : Arv Z h5 b1 k1 .int (29 : Int32) [(.int (65 : Int32)), (.int (90 : Int32)), (.int (0 : Int32)), (.int (0 : Int32)), (.int (0 : Int32)), (.int (0 : Int32)), (.int (0 : Int32)), (.int (0 : Int32)), (.int (0 : Int32)), (.int (0 : Int32)), (.int (0 : Int32)), (.int (0 : Int32)), (.int (0 : Int32)), (.int (0 : Int32)), (.int (0 : Int32)), (.int (0 : Int32)), (.int (0 : Int32)), (.int (0 : Int32)), (.int (0 : Int32)), (.int (0 : Int32)), (.int (0 : Int32)), (.int (0 : Int32)), (.int (0 : Int32)), (.int (0 : Int32)), (.int (0 : Int32)), (.int (0 : Int32)), (.int (0 : Int32)), (.int (0 : Int32)), (.int (0 : Int32))] (.int (0 : Int32)) := Arv.set Ar5 q5 S5 N5 H5 G5 rfl W5 1 rfl (Nat.le_of_ble_eq_true rfl)
  have NF5 := Fr.snoc X5 NF3 g_b1
  have SZ5 : n0 ≤ h5.size := (Nat.le_trans SZ3 (Keep.of_wr W5).1)
  refine own_pre (F' := T5.setTop (mkF m 14 #[.val (.int p0), .val (.int p1), .val (.int p2), .unset, .unset, .unset, .unset] [(.ref b1)])) (fun t k => st' t k) ?_
  refine own_pre (F' := T5.setTop (mkF m 15 #[.val (.int p0), .val (.int p1), .val (.int p2), .unset, .unset, .unset, .unset] [(.ref b1), (.ref b1)])) (fun _ k => XS.dup X5.here hx rfl (hb hby at_14) rfl rfl k) ?_
  refine own_pre (F' := T5.setTop (mkF m 16 #[.val (.int p0), .val (.int p1), .val (.int p2), .unset, .unset, .unset, .unset] [(.int (2 : Int32)), (.ref b1), (.ref b1)])) (fun _ k => XS.iconst X5.here hx rfl (hb hby at_15) k) ?_
  refine own_pre (F' := T5.setTop (mkF m 18 #[.val (.int p0), .val (.int p1), .val (.int p2), .unset, .unset, .unset, .unset] [(.int (95 : Int32)), (.int (2 : Int32)), (.ref b1), (.ref b1)])) (fun _ k => XS.bipush X5.here hx rfl (hb hby at_16) k) ?_
  obtain ⟨cl7, Ar7, q7, S7, N7, H7, G7⟩ := f6
  have hin7 : ¬ ((2 : Int32) < 0 ∨ cl7.slots.size ≤ ((2 : Int32)).toNatClampNeg) := inb_of S7 ⟨by decide, by decide⟩
  obtain ⟨T7, h7, X7, e7, W7, st'⟩ := stI X5 hx hZ e5 Ar7 (j := (2 : Int32)) hin7 (g := (mkF m 18 #[.val (.int p0), .val (.int p1), .val (.int p2), .unset, .unset, .unset, .unset] [(.int (95 : Int32)), (.int (2 : Int32)), (.ref b1), (.ref b1)])) rfl rfl (hb hby at_18)
  have f8 : Arv Z h7 b1 k1 .int (29 : Int32) [(.int (65 : Int32)), (.int (90 : Int32)), (.int (95 : Int32)), (.int (0 : Int32)), (.int (0 : Int32)), (.int (0 : Int32)), (.int (0 : Int32)), (.int (0 : Int32)), (.int (0 : Int32)), (.int (0 : Int32)), (.int (0 : Int32)), (.int (0 : Int32)), (.int (0 : Int32)), (.int (0 : Int32)), (.int (0 : Int32)), (.int (0 : Int32)), (.int (0 : Int32)), (.int (0 : Int32)), (.int (0 : Int32)), (.int (0 : Int32)), (.int (0 : Int32)), (.int (0 : Int32)), (.int (0 : Int32)), (.int (0 : Int32)), (.int (0 : Int32)), (.int (0 : Int32)), (.int (0 : Int32)), (.int (0 : Int32)), (.int (0 : Int32))] (.int (0 : Int32)) := Arv.set Ar7 q7 S7 N7 H7 G7 rfl W7 2 rfl (Nat.le_of_ble_eq_true rfl)
  have NF7 := Fr.snoc X7 NF5 g_b1
  have SZ7 : n0 ≤ h7.size := (Nat.le_trans SZ5 (Keep.of_wr W7).1)
  refine own_pre (F' := T7.setTop (mkF m 19 #[.val (.int p0), .val (.int p1), .val (.int p2), .unset, .unset, .unset, .unset] [(.ref b1)])) (fun t k => st' t k) ?_
  refine own_pre (F' := T7.setTop (mkF m 20 #[.val (.int p0), .val (.int p1), .val (.int p2), .unset, .unset, .unset, .unset] [(.ref b1), (.ref b1)])) (fun _ k => XS.dup X7.here hx rfl (hb hby at_19) rfl rfl k) ?_
  refine own_pre (F' := T7.setTop (mkF m 21 #[.val (.int p0), .val (.int p1), .val (.int p2), .unset, .unset, .unset, .unset] [(.int (3 : Int32)), (.ref b1), (.ref b1)])) (fun _ k => XS.iconst X7.here hx rfl (hb hby at_20) k) ?_
  refine own_pre (F' := T7.setTop (mkF m 23 #[.val (.int p0), .val (.int p1), .val (.int p2), .unset, .unset, .unset, .unset] [(.int (97 : Int32)), (.int (3 : Int32)), (.ref b1), (.ref b1)])) (fun _ k => XS.bipush X7.here hx rfl (hb hby at_21) k) ?_
  obtain ⟨cl9, Ar9, q9, S9, N9, H9, G9⟩ := f8
  have hin9 : ¬ ((3 : Int32) < 0 ∨ cl9.slots.size ≤ ((3 : Int32)).toNatClampNeg) := inb_of S9 ⟨by decide, by decide⟩
  obtain ⟨T9, h9, X9, e9, W9, st'⟩ := stI X7 hx hZ e7 Ar9 (j := (3 : Int32)) hin9 (g := (mkF m 23 #[.val (.int p0), .val (.int p1), .val (.int p2), .unset, .unset, .unset, .unset] [(.int (97 : Int32)), (.int (3 : Int32)), (.ref b1), (.ref b1)])) rfl rfl (hb hby at_23)
  have f10 : Arv Z h9 b1 k1 .int (29 : Int32) [(.int (65 : Int32)), (.int (90 : Int32)), (.int (95 : Int32)), (.int (97 : Int32)), (.int (0 : Int32)), (.int (0 : Int32)), (.int (0 : Int32)), (.int (0 : Int32)), (.int (0 : Int32)), (.int (0 : Int32)), (.int (0 : Int32)), (.int (0 : Int32)), (.int (0 : Int32)), (.int (0 : Int32)), (.int (0 : Int32)), (.int (0 : Int32)), (.int (0 : Int32)), (.int (0 : Int32)), (.int (0 : Int32)), (.int (0 : Int32)), (.int (0 : Int32)), (.int (0 : Int32)), (.int (0 : Int32)), (.int (0 : Int32)), (.int (0 : Int32)), (.int (0 : Int32)), (.int (0 : Int32)), (.int (0 : Int32)), (.int (0 : Int32))] (.int (0 : Int32)) := Arv.set Ar9 q9 S9 N9 H9 G9 rfl W9 3 rfl (Nat.le_of_ble_eq_true rfl)
  have NF9 := Fr.snoc X9 NF7 g_b1
  have SZ9 : n0 ≤ h9.size := (Nat.le_trans SZ7 (Keep.of_wr W9).1)
  refine own_pre (F' := T9.setTop (mkF m 24 #[.val (.int p0), .val (.int p1), .val (.int p2), .unset, .unset, .unset, .unset] [(.ref b1)])) (fun t k => st' t k) ?_
  refine own_pre (F' := T9.setTop (mkF m 25 #[.val (.int p0), .val (.int p1), .val (.int p2), .unset, .unset, .unset, .unset] [(.ref b1), (.ref b1)])) (fun _ k => XS.dup X9.here hx rfl (hb hby at_24) rfl rfl k) ?_
  refine own_pre (F' := T9.setTop (mkF m 26 #[.val (.int p0), .val (.int p1), .val (.int p2), .unset, .unset, .unset, .unset] [(.int (4 : Int32)), (.ref b1), (.ref b1)])) (fun _ k => XS.iconst X9.here hx rfl (hb hby at_25) k) ?_
  refine own_pre (F' := T9.setTop (mkF m 28 #[.val (.int p0), .val (.int p1), .val (.int p2), .unset, .unset, .unset, .unset] [(.int (122 : Int32)), (.int (4 : Int32)), (.ref b1), (.ref b1)])) (fun _ k => XS.bipush X9.here hx rfl (hb hby at_26) k) ?_
  obtain ⟨cl11, Ar11, q11, S11, N11, H11, G11⟩ := f10
  have hin11 : ¬ ((4 : Int32) < 0 ∨ cl11.slots.size ≤ ((4 : Int32)).toNatClampNeg) := inb_of S11 ⟨by decide, by decide⟩
  obtain ⟨T11, h11, X11, e11, W11, st'⟩ := stI X9 hx hZ e9 Ar11 (j := (4 : Int32)) hin11 (g := (mkF m 28 #[.val (.int p0), .val (.int p1), .val (.int p2), .unset, .unset, .unset, .unset] [(.int (122 : Int32)), (.int (4 : Int32)), (.ref b1), (.ref b1)])) rfl rfl (hb hby at_28)
  have f12 : Arv Z h11 b1 k1 .int (29 : Int32) [(.int (65 : Int32)), (.int (90 : Int32)), (.int (95 : Int32)), (.int (97 : Int32)), (.int (122 : Int32)), (.int (0 : Int32)), (.int (0 : Int32)), (.int (0 : Int32)), (.int (0 : Int32)), (.int (0 : Int32)), (.int (0 : Int32)), (.int (0 : Int32)), (.int (0 : Int32)), (.int (0 : Int32)), (.int (0 : Int32)), (.int (0 : Int32)), (.int (0 : Int32)), (.int (0 : Int32)), (.int (0 : Int32)), (.int (0 : Int32)), (.int (0 : Int32)), (.int (0 : Int32)), (.int (0 : Int32)), (.int (0 : Int32)), (.int (0 : Int32)), (.int (0 : Int32)), (.int (0 : Int32)), (.int (0 : Int32)), (.int (0 : Int32))] (.int (0 : Int32)) := Arv.set Ar11 q11 S11 N11 H11 G11 rfl W11 4 rfl (Nat.le_of_ble_eq_true rfl)
  have NF11 := Fr.snoc X11 NF9 g_b1
  have SZ11 : n0 ≤ h11.size := (Nat.le_trans SZ9 (Keep.of_wr W11).1)
  refine own_pre (F' := T11.setTop (mkF m 29 #[.val (.int p0), .val (.int p1), .val (.int p2), .unset, .unset, .unset, .unset] [(.ref b1)])) (fun t k => st' t k) ?_
  refine own_pre (F' := T11.setTop (mkF m 30 #[.val (.int p0), .val (.int p1), .val (.int p2), .unset, .unset, .unset, .unset] [(.ref b1), (.ref b1)])) (fun _ k => XS.dup X11.here hx rfl (hb hby at_29) rfl rfl k) ?_
  refine own_pre (F' := T11.setTop (mkF m 31 #[.val (.int p0), .val (.int p1), .val (.int p2), .unset, .unset, .unset, .unset] [(.int (5 : Int32)), (.ref b1), (.ref b1)])) (fun _ k => XS.iconst X11.here hx rfl (hb hby at_30) k) ?_
  refine own_pre (F' := T11.setTop (mkF m 34 #[.val (.int p0), .val (.int p1), .val (.int p2), .unset, .unset, .unset, .unset] [(.int (192 : Int32)), (.int (5 : Int32)), (.ref b1), (.ref b1)])) (fun _ k => XS.sipush X11.here hx rfl (hb hby at_31) k) ?_
  obtain ⟨cl13, Ar13, q13, S13, N13, H13, G13⟩ := f12
  have hin13 : ¬ ((5 : Int32) < 0 ∨ cl13.slots.size ≤ ((5 : Int32)).toNatClampNeg) := inb_of S13 ⟨by decide, by decide⟩
  obtain ⟨T13, h13, X13, e13, W13, st'⟩ := stI X11 hx hZ e11 Ar13 (j := (5 : Int32)) hin13 (g := (mkF m 34 #[.val (.int p0), .val (.int p1), .val (.int p2), .unset, .unset, .unset, .unset] [(.int (192 : Int32)), (.int (5 : Int32)), (.ref b1), (.ref b1)])) rfl rfl (hb hby at_34)
  have f14 : Arv Z h13 b1 k1 .int (29 : Int32) [(.int (65 : Int32)), (.int (90 : Int32)), (.int (95 : Int32)), (.int (97 : Int32)), (.int (122 : Int32)), (.int (192 : Int32)), (.int (0 : Int32)), (.int (0 : Int32)), (.int (0 : Int32)), (.int (0 : Int32)), (.int (0 : Int32)), (.int (0 : Int32)), (.int (0 : Int32)), (.int (0 : Int32)), (.int (0 : Int32)), (.int (0 : Int32)), (.int (0 : Int32)), (.int (0 : Int32)), (.int (0 : Int32)), (.int (0 : Int32)), (.int (0 : Int32)), (.int (0 : Int32)), (.int (0 : Int32)), (.int (0 : Int32)), (.int (0 : Int32)), (.int (0 : Int32)), (.int (0 : Int32)), (.int (0 : Int32)), (.int (0 : Int32))] (.int (0 : Int32)) := Arv.set Ar13 q13 S13 N13 H13 G13 rfl W13 5 rfl (Nat.le_of_ble_eq_true rfl)
  have NF13 := Fr.snoc X13 NF11 g_b1
  have SZ13 : n0 ≤ h13.size := (Nat.le_trans SZ11 (Keep.of_wr W13).1)
  refine own_pre (F' := T13.setTop (mkF m 35 #[.val (.int p0), .val (.int p1), .val (.int p2), .unset, .unset, .unset, .unset] [(.ref b1)])) (fun t k => st' t k) ?_
  refine own_pre (F' := T13.setTop (mkF m 36 #[.val (.int p0), .val (.int p1), .val (.int p2), .unset, .unset, .unset, .unset] [(.ref b1), (.ref b1)])) (fun _ k => XS.dup X13.here hx rfl (hb hby at_35) rfl rfl k) ?_
  refine own_pre (F' := T13.setTop (mkF m 38 #[.val (.int p0), .val (.int p1), .val (.int p2), .unset, .unset, .unset, .unset] [(.int (6 : Int32)), (.ref b1), (.ref b1)])) (fun _ k => XS.bipush X13.here hx rfl (hb hby at_36) k) ?_
  refine own_pre (F' := T13.setTop (mkF m 41 #[.val (.int p0), .val (.int p1), .val (.int p2), .unset, .unset, .unset, .unset] [(.int (214 : Int32)), (.int (6 : Int32)), (.ref b1), (.ref b1)])) (fun _ k => XS.sipush X13.here hx rfl (hb hby at_38) k) ?_
  obtain ⟨cl15, Ar15, q15, S15, N15, H15, G15⟩ := f14
  have hin15 : ¬ ((6 : Int32) < 0 ∨ cl15.slots.size ≤ ((6 : Int32)).toNatClampNeg) := inb_of S15 ⟨by decide, by decide⟩
  obtain ⟨T15, h15, X15, e15, W15, st'⟩ := stI X13 hx hZ e13 Ar15 (j := (6 : Int32)) hin15 (g := (mkF m 41 #[.val (.int p0), .val (.int p1), .val (.int p2), .unset, .unset, .unset, .unset] [(.int (214 : Int32)), (.int (6 : Int32)), (.ref b1), (.ref b1)])) rfl rfl (hb hby at_41)
  have f16 : Arv Z h15 b1 k1 .int (29 : Int32) [(.int (65 : Int32)), (.int (90 : Int32)), (.int (95 : Int32)), (.int (97 : Int32)), (.int (122 : Int32)), (.int (192 : Int32)), (.int (214 : Int32)), (.int (0 : Int32)), (.int (0 : Int32)), (.int (0 : Int32)), (.int (0 : Int32)), (.int (0 : Int32)), (.int (0 : Int32)), (.int (0 : Int32)), (.int (0 : Int32)), (.int (0 : Int32)), (.int (0 : Int32)), (.int (0 : Int32)), (.int (0 : Int32)), (.int (0 : Int32)), (.int (0 : Int32)), (.int (0 : Int32)), (.int (0 : Int32)), (.int (0 : Int32)), (.int (0 : Int32)), (.int (0 : Int32)), (.int (0 : Int32)), (.int (0 : Int32)), (.int (0 : Int32))] (.int (0 : Int32)) := Arv.set Ar15 q15 S15 N15 H15 G15 rfl W15 6 rfl (Nat.le_of_ble_eq_true rfl)
  have NF15 := Fr.snoc X15 NF13 g_b1
  have SZ15 : n0 ≤ h15.size := (Nat.le_trans SZ13 (Keep.of_wr W15).1)
  refine own_pre (F' := T15.setTop (mkF m 42 #[.val (.int p0), .val (.int p1), .val (.int p2), .unset, .unset, .unset, .unset] [(.ref b1)])) (fun t k => st' t k) ?_
  refine own_pre (F' := T15.setTop (mkF m 43 #[.val (.int p0), .val (.int p1), .val (.int p2), .unset, .unset, .unset, .unset] [(.ref b1), (.ref b1)])) (fun _ k => XS.dup X15.here hx rfl (hb hby at_42) rfl rfl k) ?_
  refine own_pre (F' := T15.setTop (mkF m 45 #[.val (.int p0), .val (.int p1), .val (.int p2), .unset, .unset, .unset, .unset] [(.int (7 : Int32)), (.ref b1), (.ref b1)])) (fun _ k => XS.bipush X15.here hx rfl (hb hby at_43) k) ?_
  refine own_pre (F' := T15.setTop (mkF m 48 #[.val (.int p0), .val (.int p1), .val (.int p2), .unset, .unset, .unset, .unset] [(.int (216 : Int32)), (.int (7 : Int32)), (.ref b1), (.ref b1)])) (fun _ k => XS.sipush X15.here hx rfl (hb hby at_45) k) ?_
  obtain ⟨cl17, Ar17, q17, S17, N17, H17, G17⟩ := f16
  have hin17 : ¬ ((7 : Int32) < 0 ∨ cl17.slots.size ≤ ((7 : Int32)).toNatClampNeg) := inb_of S17 ⟨by decide, by decide⟩
  obtain ⟨T17, h17, X17, e17, W17, st'⟩ := stI X15 hx hZ e15 Ar17 (j := (7 : Int32)) hin17 (g := (mkF m 48 #[.val (.int p0), .val (.int p1), .val (.int p2), .unset, .unset, .unset, .unset] [(.int (216 : Int32)), (.int (7 : Int32)), (.ref b1), (.ref b1)])) rfl rfl (hb hby at_48)
  have f18 : Arv Z h17 b1 k1 .int (29 : Int32) [(.int (65 : Int32)), (.int (90 : Int32)), (.int (95 : Int32)), (.int (97 : Int32)), (.int (122 : Int32)), (.int (192 : Int32)), (.int (214 : Int32)), (.int (216 : Int32)), (.int (0 : Int32)), (.int (0 : Int32)), (.int (0 : Int32)), (.int (0 : Int32)), (.int (0 : Int32)), (.int (0 : Int32)), (.int (0 : Int32)), (.int (0 : Int32)), (.int (0 : Int32)), (.int (0 : Int32)), (.int (0 : Int32)), (.int (0 : Int32)), (.int (0 : Int32)), (.int (0 : Int32)), (.int (0 : Int32)), (.int (0 : Int32)), (.int (0 : Int32)), (.int (0 : Int32)), (.int (0 : Int32)), (.int (0 : Int32)), (.int (0 : Int32))] (.int (0 : Int32)) := Arv.set Ar17 q17 S17 N17 H17 G17 rfl W17 7 rfl (Nat.le_of_ble_eq_true rfl)
  have NF17 := Fr.snoc X17 NF15 g_b1
  have SZ17 : n0 ≤ h17.size := (Nat.le_trans SZ15 (Keep.of_wr W17).1)
  refine own_pre (F' := T17.setTop (mkF m 49 #[.val (.int p0), .val (.int p1), .val (.int p2), .unset, .unset, .unset, .unset] [(.ref b1)])) (fun t k => st' t k) ?_
  refine own_pre (F' := T17.setTop (mkF m 50 #[.val (.int p0), .val (.int p1), .val (.int p2), .unset, .unset, .unset, .unset] [(.ref b1), (.ref b1)])) (fun _ k => XS.dup X17.here hx rfl (hb hby at_49) rfl rfl k) ?_
  refine own_pre (F' := T17.setTop (mkF m 52 #[.val (.int p0), .val (.int p1), .val (.int p2), .unset, .unset, .unset, .unset] [(.int (8 : Int32)), (.ref b1), (.ref b1)])) (fun _ k => XS.bipush X17.here hx rfl (hb hby at_50) k) ?_
  refine own_pre (F' := T17.setTop (mkF m 55 #[.val (.int p0), .val (.int p1), .val (.int p2), .unset, .unset, .unset, .unset] [(.int (246 : Int32)), (.int (8 : Int32)), (.ref b1), (.ref b1)])) (fun _ k => XS.sipush X17.here hx rfl (hb hby at_52) k) ?_
  obtain ⟨cl19, Ar19, q19, S19, N19, H19, G19⟩ := f18
  have hin19 : ¬ ((8 : Int32) < 0 ∨ cl19.slots.size ≤ ((8 : Int32)).toNatClampNeg) := inb_of S19 ⟨by decide, by decide⟩
  obtain ⟨T19, h19, X19, e19, W19, st'⟩ := stI X17 hx hZ e17 Ar19 (j := (8 : Int32)) hin19 (g := (mkF m 55 #[.val (.int p0), .val (.int p1), .val (.int p2), .unset, .unset, .unset, .unset] [(.int (246 : Int32)), (.int (8 : Int32)), (.ref b1), (.ref b1)])) rfl rfl (hb hby at_55)
  have f20 : Arv Z h19 b1 k1 .int (29 : Int32) [(.int (65 : Int32)), (.int (90 : Int32)), (.int (95 : Int32)), (.int (97 : Int32)), (.int (122 : Int32)), (.int (192 : Int32)), (.int (214 : Int32)), (.int (216 : Int32)), (.int (246 : Int32)), (.int (0 : Int32)), (.int (0 : Int32)), (.int (0 : Int32)), (.int (0 : Int32)), (.int (0 : Int32)), (.int (0 : Int32)), (.int (0 : Int32)), (.int (0 : Int32)), (.int (0 : Int32)), (.int (0 : Int32)), (.int (0 : Int32)), (.int (0 : Int32)), (.int (0 : Int32)), (.int (0 : Int32)), (.int (0 : Int32)), (.int (0 : Int32)), (.int (0 : Int32)), (.int (0 : Int32)), (.int (0 : Int32)), (.int (0 : Int32))] (.int (0 : Int32)) := Arv.set Ar19 q19 S19 N19 H19 G19 rfl W19 8 rfl (Nat.le_of_ble_eq_true rfl)
  have NF19 := Fr.snoc X19 NF17 g_b1
  have SZ19 : n0 ≤ h19.size := (Nat.le_trans SZ17 (Keep.of_wr W19).1)
  refine own_pre (F' := T19.setTop (mkF m 56 #[.val (.int p0), .val (.int p1), .val (.int p2), .unset, .unset, .unset, .unset] [(.ref b1)])) (fun t k => st' t k) ?_
  refine own_pre (F' := T19.setTop (mkF m 57 #[.val (.int p0), .val (.int p1), .val (.int p2), .unset, .unset, .unset, .unset] [(.ref b1), (.ref b1)])) (fun _ k => XS.dup X19.here hx rfl (hb hby at_56) rfl rfl k) ?_
  refine own_pre (F' := T19.setTop (mkF m 59 #[.val (.int p0), .val (.int p1), .val (.int p2), .unset, .unset, .unset, .unset] [(.int (9 : Int32)), (.ref b1), (.ref b1)])) (fun _ k => XS.bipush X19.here hx rfl (hb hby at_57) k) ?_
  refine own_pre (F' := T19.setTop (mkF m 62 #[.val (.int p0), .val (.int p1), .val (.int p2), .unset, .unset, .unset, .unset] [(.int (248 : Int32)), (.int (9 : Int32)), (.ref b1), (.ref b1)])) (fun _ k => XS.sipush X19.here hx rfl (hb hby at_59) k) ?_
  obtain ⟨cl21, Ar21, q21, S21, N21, H21, G21⟩ := f20
  have hin21 : ¬ ((9 : Int32) < 0 ∨ cl21.slots.size ≤ ((9 : Int32)).toNatClampNeg) := inb_of S21 ⟨by decide, by decide⟩
  obtain ⟨T21, h21, X21, e21, W21, st'⟩ := stI X19 hx hZ e19 Ar21 (j := (9 : Int32)) hin21 (g := (mkF m 62 #[.val (.int p0), .val (.int p1), .val (.int p2), .unset, .unset, .unset, .unset] [(.int (248 : Int32)), (.int (9 : Int32)), (.ref b1), (.ref b1)])) rfl rfl (hb hby at_62)
  have f22 : Arv Z h21 b1 k1 .int (29 : Int32) [(.int (65 : Int32)), (.int (90 : Int32)), (.int (95 : Int32)), (.int (97 : Int32)), (.int (122 : Int32)), (.int (192 : Int32)), (.int (214 : Int32)), (.int (216 : Int32)), (.int (246 : Int32)), (.int (248 : Int32)), (.int (0 : Int32)), (.int (0 : Int32)), (.int (0 : Int32)), (.int (0 : Int32)), (.int (0 : Int32)), (.int (0 : Int32)), (.int (0 : Int32)), (.int (0 : Int32)), (.int (0 : Int32)), (.int (0 : Int32)), (.int (0 : Int32)), (.int (0 : Int32)), (.int (0 : Int32)), (.int (0 : Int32)), (.int (0 : Int32)), (.int (0 : Int32)), (.int (0 : Int32)), (.int (0 : Int32)), (.int (0 : Int32))] (.int (0 : Int32)) := Arv.set Ar21 q21 S21 N21 H21 G21 rfl W21 9 rfl (Nat.le_of_ble_eq_true rfl)
  have NF21 := Fr.snoc X21 NF19 g_b1
  have SZ21 : n0 ≤ h21.size := (Nat.le_trans SZ19 (Keep.of_wr W21).1)
  refine own_pre (F' := T21.setTop (mkF m 63 #[.val (.int p0), .val (.int p1), .val (.int p2), .unset, .unset, .unset, .unset] [(.ref b1)])) (fun t k => st' t k) ?_
  refine own_pre (F' := T21.setTop (mkF m 64 #[.val (.int p0), .val (.int p1), .val (.int p2), .unset, .unset, .unset, .unset] [(.ref b1), (.ref b1)])) (fun _ k => XS.dup X21.here hx rfl (hb hby at_63) rfl rfl k) ?_
  refine own_pre (F' := T21.setTop (mkF m 66 #[.val (.int p0), .val (.int p1), .val (.int p2), .unset, .unset, .unset, .unset] [(.int (10 : Int32)), (.ref b1), (.ref b1)])) (fun _ k => XS.bipush X21.here hx rfl (hb hby at_64) k) ?_
  refine own_pre (F' := T21.setTop (mkF m 69 #[.val (.int p0), .val (.int p1), .val (.int p2), .unset, .unset, .unset, .unset] [(.int (767 : Int32)), (.int (10 : Int32)), (.ref b1), (.ref b1)])) (fun _ k => XS.sipush X21.here hx rfl (hb hby at_66) k) ?_
  obtain ⟨cl23, Ar23, q23, S23, N23, H23, G23⟩ := f22
  have hin23 : ¬ ((10 : Int32) < 0 ∨ cl23.slots.size ≤ ((10 : Int32)).toNatClampNeg) := inb_of S23 ⟨by decide, by decide⟩
  obtain ⟨T23, h23, X23, e23, W23, st'⟩ := stI X21 hx hZ e21 Ar23 (j := (10 : Int32)) hin23 (g := (mkF m 69 #[.val (.int p0), .val (.int p1), .val (.int p2), .unset, .unset, .unset, .unset] [(.int (767 : Int32)), (.int (10 : Int32)), (.ref b1), (.ref b1)])) rfl rfl (hb hby at_69)
  have f24 : Arv Z h23 b1 k1 .int (29 : Int32) [(.int (65 : Int32)), (.int (90 : Int32)), (.int (95 : Int32)), (.int (97 : Int32)), (.int (122 : Int32)), (.int (192 : Int32)), (.int (214 : Int32)), (.int (216 : Int32)), (.int (246 : Int32)), (.int (248 : Int32)), (.int (767 : Int32)), (.int (0 : Int32)), (.int (0 : Int32)), (.int (0 : Int32)), (.int (0 : Int32)), (.int (0 : Int32)), (.int (0 : Int32)), (.int (0 : Int32)), (.int (0 : Int32)), (.int (0 : Int32)), (.int (0 : Int32)), (.int (0 : Int32)), (.int (0 : Int32)), (.int (0 : Int32)), (.int (0 : Int32)), (.int (0 : Int32)), (.int (0 : Int32)), (.int (0 : Int32)), (.int (0 : Int32))] (.int (0 : Int32)) := Arv.set Ar23 q23 S23 N23 H23 G23 rfl W23 10 rfl (Nat.le_of_ble_eq_true rfl)
  have NF23 := Fr.snoc X23 NF21 g_b1
  have SZ23 : n0 ≤ h23.size := (Nat.le_trans SZ21 (Keep.of_wr W23).1)
  refine own_pre (F' := T23.setTop (mkF m 70 #[.val (.int p0), .val (.int p1), .val (.int p2), .unset, .unset, .unset, .unset] [(.ref b1)])) (fun t k => st' t k) ?_
  refine own_pre (F' := T23.setTop (mkF m 71 #[.val (.int p0), .val (.int p1), .val (.int p2), .unset, .unset, .unset, .unset] [(.ref b1), (.ref b1)])) (fun _ k => XS.dup X23.here hx rfl (hb hby at_70) rfl rfl k) ?_
  refine own_pre (F' := T23.setTop (mkF m 73 #[.val (.int p0), .val (.int p1), .val (.int p2), .unset, .unset, .unset, .unset] [(.int (11 : Int32)), (.ref b1), (.ref b1)])) (fun _ k => XS.bipush X23.here hx rfl (hb hby at_71) k) ?_
  refine own_pre (F' := T23.setTop (mkF m 76 #[.val (.int p0), .val (.int p1), .val (.int p2), .unset, .unset, .unset, .unset] [(.int (880 : Int32)), (.int (11 : Int32)), (.ref b1), (.ref b1)])) (fun _ k => XS.sipush X23.here hx rfl (hb hby at_73) k) ?_
  obtain ⟨cl25, Ar25, q25, S25, N25, H25, G25⟩ := f24
  have hin25 : ¬ ((11 : Int32) < 0 ∨ cl25.slots.size ≤ ((11 : Int32)).toNatClampNeg) := inb_of S25 ⟨by decide, by decide⟩
  obtain ⟨T25, h25, X25, e25, W25, st'⟩ := stI X23 hx hZ e23 Ar25 (j := (11 : Int32)) hin25 (g := (mkF m 76 #[.val (.int p0), .val (.int p1), .val (.int p2), .unset, .unset, .unset, .unset] [(.int (880 : Int32)), (.int (11 : Int32)), (.ref b1), (.ref b1)])) rfl rfl (hb hby at_76)
  have f26 : Arv Z h25 b1 k1 .int (29 : Int32) [(.int (65 : Int32)), (.int (90 : Int32)), (.int (95 : Int32)), (.int (97 : Int32)), (.int (122 : Int32)), (.int (192 : Int32)), (.int (214 : Int32)), (.int (216 : Int32)), (.int (246 : Int32)), (.int (248 : Int32)), (.int (767 : Int32)), (.int (880 : Int32)), (.int (0 : Int32)), (.int (0 : Int32)), (.int (0 : Int32)), (.int (0 : Int32)), (.int (0 : Int32)), (.int (0 : Int32)), (.int (0 : Int32)), (.int (0 : Int32)), (.int (0 : Int32)), (.int (0 : Int32)), (.int (0 : Int32)), (.int (0 : Int32)), (.int (0 : Int32)), (.int (0 : Int32)), (.int (0 : Int32)), (.int (0 : Int32)), (.int (0 : Int32))] (.int (0 : Int32)) := Arv.set Ar25 q25 S25 N25 H25 G25 rfl W25 11 rfl (Nat.le_of_ble_eq_true rfl)
  have NF25 := Fr.snoc X25 NF23 g_b1
  have SZ25 : n0 ≤ h25.size := (Nat.le_trans SZ23 (Keep.of_wr W25).1)
  refine own_pre (F' := T25.setTop (mkF m 77 #[.val (.int p0), .val (.int p1), .val (.int p2), .unset, .unset, .unset, .unset] [(.ref b1)])) (fun t k => st' t k) ?_
  refine own_pre (F' := T25.setTop (mkF m 78 #[.val (.int p0), .val (.int p1), .val (.int p2), .unset, .unset, .unset, .unset] [(.ref b1), (.ref b1)])) (fun _ k => XS.dup X25.here hx rfl (hb hby at_77) rfl rfl k) ?_
  refine own_pre (F' := T25.setTop (mkF m 80 #[.val (.int p0), .val (.int p1), .val (.int p2), .unset, .unset, .unset, .unset] [(.int (12 : Int32)), (.ref b1), (.ref b1)])) (fun _ k => XS.bipush X25.here hx rfl (hb hby at_78) k) ?_
  refine own_pre (F' := T25.setTop (mkF m 83 #[.val (.int p0), .val (.int p1), .val (.int p2), .unset, .unset, .unset, .unset] [(.int (893 : Int32)), (.int (12 : Int32)), (.ref b1), (.ref b1)])) (fun _ k => XS.sipush X25.here hx rfl (hb hby at_80) k) ?_
  obtain ⟨cl27, Ar27, q27, S27, N27, H27, G27⟩ := f26
  have hin27 : ¬ ((12 : Int32) < 0 ∨ cl27.slots.size ≤ ((12 : Int32)).toNatClampNeg) := inb_of S27 ⟨by decide, by decide⟩
  obtain ⟨T27, h27, X27, e27, W27, st'⟩ := stI X25 hx hZ e25 Ar27 (j := (12 : Int32)) hin27 (g := (mkF m 83 #[.val (.int p0), .val (.int p1), .val (.int p2), .unset, .unset, .unset, .unset] [(.int (893 : Int32)), (.int (12 : Int32)), (.ref b1), (.ref b1)])) rfl rfl (hb hby at_83)
  have f28 : Arv Z h27 b1 k1 .int (29 : Int32) [(.int (65 : Int32)), (.int (90 : Int32)), (.int (95 : Int32)), (.int (97 : Int32)), (.int (122 : Int32)), (.int (192 : Int32)), (.int (214 : Int32)), (.int (216 : Int32)), (.int (246 : Int32)), (.int (248 : Int32)), (.int (767 : Int32)), (.int (880 : Int32)), (.int (893 : Int32)), (.int (0 : Int32)), (.int (0 : Int32)), (.int (0 : Int32)), (.int (0 : Int32)), (.int (0 : Int32)), (.int (0 : Int32)), (.int (0 : Int32)), (.int (0 : Int32)), (.int (0 : Int32)), (.int (0 : Int32)), (.int (0 : Int32)), (.int (0 : Int32)), (.int (0 : Int32)), (.int (0 : Int32)), (.int (0 : Int32)), (.int (0 : Int32))] (.int (0 : Int32)) := Arv.set Ar27 q27 S27 N27 H27 G27 rfl W27 12 rfl (Nat.le_of_ble_eq_true rfl)
  have NF27 := Fr.snoc X27 NF25 g_b1
  have SZ27 : n0 ≤ h27.size := (Nat.le_trans SZ25 (Keep.of_wr W27).1)
  refine own_pre (F' := T27.setTop (mkF m 84 #[.val (.int p0), .val (.int p1), .val (.int p2), .unset, .unset, .unset, .unset] [(.ref b1)])) (fun t k => st' t k) ?_
  refine own_pre (F' := T27.setTop (mkF m 85 #[.val (.int p0), .val (.int p1), .val (.int p2), .unset, .unset, .unset, .unset] [(.ref b1), (.ref b1)])) (fun _ k => XS.dup X27.here hx rfl (hb hby at_84) rfl rfl k) ?_
  refine own_pre (F' := T27.setTop (mkF m 87 #[.val (.int p0), .val (.int p1), .val (.int p2), .unset, .unset, .unset, .unset] [(.int (13 : Int32)), (.ref b1), (.ref b1)])) (fun _ k => XS.bipush X27.here hx rfl (hb hby at_85) k) ?_
  refine own_pre (F' := T27.setTop (mkF m 90 #[.val (.int p0), .val (.int p1), .val (.int p2), .unset, .unset, .unset, .unset] [(.int (895 : Int32)), (.int (13 : Int32)), (.ref b1), (.ref b1)])) (fun _ k => XS.sipush X27.here hx rfl (hb hby at_87) k) ?_
  obtain ⟨cl29, Ar29, q29, S29, N29, H29, G29⟩ := f28
  have hin29 : ¬ ((13 : Int32) < 0 ∨ cl29.slots.size ≤ ((13 : Int32)).toNatClampNeg) := inb_of S29 ⟨by decide, by decide⟩
  obtain ⟨T29, h29, X29, e29, W29, st'⟩ := stI X27 hx hZ e27 Ar29 (j := (13 : Int32)) hin29 (g := (mkF m 90 #[.val (.int p0), .val (.int p1), .val (.int p2), .unset, .unset, .unset, .unset] [(.int (895 : Int32)), (.int (13 : Int32)), (.ref b1), (.ref b1)])) rfl rfl (hb hby at_90)
  have f30 : Arv Z h29 b1 k1 .int (29 : Int32) [(.int (65 : Int32)), (.int (90 : Int32)), (.int (95 : Int32)), (.int (97 : Int32)), (.int (122 : Int32)), (.int (192 : Int32)), (.int (214 : Int32)), (.int (216 : Int32)), (.int (246 : Int32)), (.int (248 : Int32)), (.int (767 : Int32)), (.int (880 : Int32)), (.int (893 : Int32)), (.int (895 : Int32)), (.int (0 : Int32)), (.int (0 : Int32)), (.int (0 : Int32)), (.int (0 : Int32)), (.int (0 : Int32)), (.int (0 : Int32)), (.int (0 : Int32)), (.int (0 : Int32)), (.int (0 : Int32)), (.int (0 : Int32)), (.int (0 : Int32)), (.int (0 : Int32)), (.int (0 : Int32)), (.int (0 : Int32)), (.int (0 : Int32))] (.int (0 : Int32)) := Arv.set Ar29 q29 S29 N29 H29 G29 rfl W29 13 rfl (Nat.le_of_ble_eq_true rfl)
  have NF29 := Fr.snoc X29 NF27 g_b1
  have SZ29 : n0 ≤ h29.size := (Nat.le_trans SZ27 (Keep.of_wr W29).1)
  refine own_pre (F' := T29.setTop (mkF m 91 #[.val (.int p0), .val (.int p1), .val (.int p2), .unset, .unset, .unset, .unset] [(.ref b1)])) (fun t k => st' t k) ?_
  refine own_pre (F' := T29.setTop (mkF m 92 #[.val (.int p0), .val (.int p1), .val (.int p2), .unset, .unset, .unset, .unset] [(.ref b1), (.ref b1)])) (fun _ k => XS.dup X29.here hx rfl (hb hby at_91) rfl rfl k) ?_
  refine own_pre (F' := T29.setTop (mkF m 94 #[.val (.int p0), .val (.int p1), .val (.int p2), .unset, .unset, .unset, .unset] [(.int (14 : Int32)), (.ref b1), (.ref b1)])) (fun _ k => XS.bipush X29.here hx rfl (hb hby at_92) k) ?_
  refine own_pre (F' := T29.setTop (mkF m 97 #[.val (.int p0), .val (.int p1), .val (.int p2), .unset, .unset, .unset, .unset] [(.int (8191 : Int32)), (.int (14 : Int32)), (.ref b1), (.ref b1)])) (fun _ k => XS.sipush X29.here hx rfl (hb hby at_94) k) ?_
  obtain ⟨cl31, Ar31, q31, S31, N31, H31, G31⟩ := f30
  have hin31 : ¬ ((14 : Int32) < 0 ∨ cl31.slots.size ≤ ((14 : Int32)).toNatClampNeg) := inb_of S31 ⟨by decide, by decide⟩
  obtain ⟨T31, h31, X31, e31, W31, st'⟩ := stI X29 hx hZ e29 Ar31 (j := (14 : Int32)) hin31 (g := (mkF m 97 #[.val (.int p0), .val (.int p1), .val (.int p2), .unset, .unset, .unset, .unset] [(.int (8191 : Int32)), (.int (14 : Int32)), (.ref b1), (.ref b1)])) rfl rfl (hb hby at_97)
  have f32 : Arv Z h31 b1 k1 .int (29 : Int32) [(.int (65 : Int32)), (.int (90 : Int32)), (.int (95 : Int32)), (.int (97 : Int32)), (.int (122 : Int32)), (.int (192 : Int32)), (.int (214 : Int32)), (.int (216 : Int32)), (.int (246 : Int32)), (.int (248 : Int32)), (.int (767 : Int32)), (.int (880 : Int32)), (.int (893 : Int32)), (.int (895 : Int32)), (.int (8191 : Int32)), (.int (0 : Int32)), (.int (0 : Int32)), (.int (0 : Int32)), (.int (0 : Int32)), (.int (0 : Int32)), (.int (0 : Int32)), (.int (0 : Int32)), (.int (0 : Int32)), (.int (0 : Int32)), (.int (0 : Int32)), (.int (0 : Int32)), (.int (0 : Int32)), (.int (0 : Int32)), (.int (0 : Int32))] (.int (0 : Int32)) := Arv.set Ar31 q31 S31 N31 H31 G31 rfl W31 14 rfl (Nat.le_of_ble_eq_true rfl)
  have NF31 := Fr.snoc X31 NF29 g_b1
  have SZ31 : n0 ≤ h31.size := (Nat.le_trans SZ29 (Keep.of_wr W31).1)
  refine own_pre (F' := T31.setTop (mkF m 98 #[.val (.int p0), .val (.int p1), .val (.int p2), .unset, .unset, .unset, .unset] [(.ref b1)])) (fun t k => st' t k) ?_
  refine own_pre (F' := T31.setTop (mkF m 99 #[.val (.int p0), .val (.int p1), .val (.int p2), .unset, .unset, .unset, .unset] [(.ref b1), (.ref b1)])) (fun _ k => XS.dup X31.here hx rfl (hb hby at_98) rfl rfl k) ?_
  refine own_pre (F' := T31.setTop (mkF m 101 #[.val (.int p0), .val (.int p1), .val (.int p2), .unset, .unset, .unset, .unset] [(.int (15 : Int32)), (.ref b1), (.ref b1)])) (fun _ k => XS.bipush X31.here hx rfl (hb hby at_99) k) ?_
  refine own_pre (F' := T31.setTop (mkF m 104 #[.val (.int p0), .val (.int p1), .val (.int p2), .unset, .unset, .unset, .unset] [(.int (8204 : Int32)), (.int (15 : Int32)), (.ref b1), (.ref b1)])) (fun _ k => XS.sipush X31.here hx rfl (hb hby at_101) k) ?_
  obtain ⟨cl33, Ar33, q33, S33, N33, H33, G33⟩ := f32
  have hin33 : ¬ ((15 : Int32) < 0 ∨ cl33.slots.size ≤ ((15 : Int32)).toNatClampNeg) := inb_of S33 ⟨by decide, by decide⟩
  obtain ⟨T33, h33, X33, e33, W33, st'⟩ := stI X31 hx hZ e31 Ar33 (j := (15 : Int32)) hin33 (g := (mkF m 104 #[.val (.int p0), .val (.int p1), .val (.int p2), .unset, .unset, .unset, .unset] [(.int (8204 : Int32)), (.int (15 : Int32)), (.ref b1), (.ref b1)])) rfl rfl (hb hby at_104)
  have f34 : Arv Z h33 b1 k1 .int (29 : Int32) [(.int (65 : Int32)), (.int (90 : Int32)), (.int (95 : Int32)), (.int (97 : Int32)), (.int (122 : Int32)), (.int (192 : Int32)), (.int (214 : Int32)), (.int (216 : Int32)), (.int (246 : Int32)), (.int (248 : Int32)), (.int (767 : Int32)), (.int (880 : Int32)), (.int (893 : Int32)), (.int (895 : Int32)), (.int (8191 : Int32)), (.int (8204 : Int32)), (.int (0 : Int32)), (.int (0 : Int32)), (.int (0 : Int32)), (.int (0 : Int32)), (.int (0 : Int32)), (.int (0 : Int32)), (.int (0 : Int32)), (.int (0 : Int32)), (.int (0 : Int32)), (.int (0 : Int32)), (.int (0 : Int32)), (.int (0 : Int32)), (.int (0 : Int32))] (.int (0 : Int32)) := Arv.set Ar33 q33 S33 N33 H33 G33 rfl W33 15 rfl (Nat.le_of_ble_eq_true rfl)
  have NF33 := Fr.snoc X33 NF31 g_b1
  have SZ33 : n0 ≤ h33.size := (Nat.le_trans SZ31 (Keep.of_wr W33).1)
  refine own_pre (F' := T33.setTop (mkF m 105 #[.val (.int p0), .val (.int p1), .val (.int p2), .unset, .unset, .unset, .unset] [(.ref b1)])) (fun t k => st' t k) ?_
  refine own_pre (F' := T33.setTop (mkF m 106 #[.val (.int p0), .val (.int p1), .val (.int p2), .unset, .unset, .unset, .unset] [(.ref b1), (.ref b1)])) (fun _ k => XS.dup X33.here hx rfl (hb hby at_105) rfl rfl k) ?_
  refine own_pre (F' := T33.setTop (mkF m 108 #[.val (.int p0), .val (.int p1), .val (.int p2), .unset, .unset, .unset, .unset] [(.int (16 : Int32)), (.ref b1), (.ref b1)])) (fun _ k => XS.bipush X33.here hx rfl (hb hby at_106) k) ?_
  refine own_pre (F' := T33.setTop (mkF m 111 #[.val (.int p0), .val (.int p1), .val (.int p2), .unset, .unset, .unset, .unset] [(.int (8205 : Int32)), (.int (16 : Int32)), (.ref b1), (.ref b1)])) (fun _ k => XS.sipush X33.here hx rfl (hb hby at_108) k) ?_
  obtain ⟨cl35, Ar35, q35, S35, N35, H35, G35⟩ := f34
  have hin35 : ¬ ((16 : Int32) < 0 ∨ cl35.slots.size ≤ ((16 : Int32)).toNatClampNeg) := inb_of S35 ⟨by decide, by decide⟩
  obtain ⟨T35, h35, X35, e35, W35, st'⟩ := stI X33 hx hZ e33 Ar35 (j := (16 : Int32)) hin35 (g := (mkF m 111 #[.val (.int p0), .val (.int p1), .val (.int p2), .unset, .unset, .unset, .unset] [(.int (8205 : Int32)), (.int (16 : Int32)), (.ref b1), (.ref b1)])) rfl rfl (hb hby at_111)
  have f36 : Arv Z h35 b1 k1 .int (29 : Int32) [(.int (65 : Int32)), (.int (90 : Int32)), (.int (95 : Int32)), (.int (97 : Int32)), (.int (122 : Int32)), (.int (192 : Int32)), (.int (214 : Int32)), (.int (216 : Int32)), (.int (246 : Int32)), (.int (248 : Int32)), (.int (767 : Int32)), (.int (880 : Int32)), (.int (893 : Int32)), (.int (895 : Int32)), (.int (8191 : Int32)), (.int (8204 : Int32)), (.int (8205 : Int32)), (.int (0 : Int32)), (.int (0 : Int32)), (.int (0 : Int32)), (.int (0 : Int32)), (.int (0 : Int32)), (.int (0 : Int32)), (.int (0 : Int32)), (.int (0 : Int32)), (.int (0 : Int32)), (.int (0 : Int32)), (.int (0 : Int32)), (.int (0 : Int32))] (.int (0 : Int32)) := Arv.set Ar35 q35 S35 N35 H35 G35 rfl W35 16 rfl (Nat.le_of_ble_eq_true rfl)
  have NF35 := Fr.snoc X35 NF33 g_b1
  have SZ35 : n0 ≤ h35.size := (Nat.le_trans SZ33 (Keep.of_wr W35).1)
  refine own_pre (F' := T35.setTop (mkF m 112 #[.val (.int p0), .val (.int p1), .val (.int p2), .unset, .unset, .unset, .unset] [(.ref b1)])) (fun t k => st' t k) ?_
  refine own_pre (F' := T35.setTop (mkF m 113 #[.val (.int p0), .val (.int p1), .val (.int p2), .unset, .unset, .unset, .unset] [(.ref b1), (.ref b1)])) (fun _ k => XS.dup X35.here hx rfl (hb hby at_112) rfl rfl k) ?_
  refine own_pre (F' := T35.setTop (mkF m 115 #[.val (.int p0), .val (.int p1), .val (.int p2), .unset, .unset, .unset, .unset] [(.int (17 : Int32)), (.ref b1), (.ref b1)])) (fun _ k => XS.bipush X35.here hx rfl (hb hby at_113) k) ?_
  refine own_pre (F' := T35.setTop (mkF m 118 #[.val (.int p0), .val (.int p1), .val (.int p2), .unset, .unset, .unset, .unset] [(.int (8304 : Int32)), (.int (17 : Int32)), (.ref b1), (.ref b1)])) (fun _ k => XS.sipush X35.here hx rfl (hb hby at_115) k) ?_
  obtain ⟨cl37, Ar37, q37, S37, N37, H37, G37⟩ := f36
  have hin37 : ¬ ((17 : Int32) < 0 ∨ cl37.slots.size ≤ ((17 : Int32)).toNatClampNeg) := inb_of S37 ⟨by decide, by decide⟩
  obtain ⟨T37, h37, X37, e37, W37, st'⟩ := stI X35 hx hZ e35 Ar37 (j := (17 : Int32)) hin37 (g := (mkF m 118 #[.val (.int p0), .val (.int p1), .val (.int p2), .unset, .unset, .unset, .unset] [(.int (8304 : Int32)), (.int (17 : Int32)), (.ref b1), (.ref b1)])) rfl rfl (hb hby at_118)
  have f38 : Arv Z h37 b1 k1 .int (29 : Int32) [(.int (65 : Int32)), (.int (90 : Int32)), (.int (95 : Int32)), (.int (97 : Int32)), (.int (122 : Int32)), (.int (192 : Int32)), (.int (214 : Int32)), (.int (216 : Int32)), (.int (246 : Int32)), (.int (248 : Int32)), (.int (767 : Int32)), (.int (880 : Int32)), (.int (893 : Int32)), (.int (895 : Int32)), (.int (8191 : Int32)), (.int (8204 : Int32)), (.int (8205 : Int32)), (.int (8304 : Int32)), (.int (0 : Int32)), (.int (0 : Int32)), (.int (0 : Int32)), (.int (0 : Int32)), (.int (0 : Int32)), (.int (0 : Int32)), (.int (0 : Int32)), (.int (0 : Int32)), (.int (0 : Int32)), (.int (0 : Int32)), (.int (0 : Int32))] (.int (0 : Int32)) := Arv.set Ar37 q37 S37 N37 H37 G37 rfl W37 17 rfl (Nat.le_of_ble_eq_true rfl)
  have NF37 := Fr.snoc X37 NF35 g_b1
  have SZ37 : n0 ≤ h37.size := (Nat.le_trans SZ35 (Keep.of_wr W37).1)
  refine own_pre (F' := T37.setTop (mkF m 119 #[.val (.int p0), .val (.int p1), .val (.int p2), .unset, .unset, .unset, .unset] [(.ref b1)])) (fun t k => st' t k) ?_
  refine own_pre (F' := T37.setTop (mkF m 120 #[.val (.int p0), .val (.int p1), .val (.int p2), .unset, .unset, .unset, .unset] [(.ref b1), (.ref b1)])) (fun _ k => XS.dup X37.here hx rfl (hb hby at_119) rfl rfl k) ?_
  refine own_pre (F' := T37.setTop (mkF m 122 #[.val (.int p0), .val (.int p1), .val (.int p2), .unset, .unset, .unset, .unset] [(.int (18 : Int32)), (.ref b1), (.ref b1)])) (fun _ k => XS.bipush X37.here hx rfl (hb hby at_120) k) ?_
  refine own_pre (F' := T37.setTop (mkF m 125 #[.val (.int p0), .val (.int p1), .val (.int p2), .unset, .unset, .unset, .unset] [(.int (8591 : Int32)), (.int (18 : Int32)), (.ref b1), (.ref b1)])) (fun _ k => XS.sipush X37.here hx rfl (hb hby at_122) k) ?_
  obtain ⟨cl39, Ar39, q39, S39, N39, H39, G39⟩ := f38
  have hin39 : ¬ ((18 : Int32) < 0 ∨ cl39.slots.size ≤ ((18 : Int32)).toNatClampNeg) := inb_of S39 ⟨by decide, by decide⟩
  obtain ⟨T39, h39, X39, e39, W39, st'⟩ := stI X37 hx hZ e37 Ar39 (j := (18 : Int32)) hin39 (g := (mkF m 125 #[.val (.int p0), .val (.int p1), .val (.int p2), .unset, .unset, .unset, .unset] [(.int (8591 : Int32)), (.int (18 : Int32)), (.ref b1), (.ref b1)])) rfl rfl (hb hby at_125)
  have f40 : Arv Z h39 b1 k1 .int (29 : Int32) [(.int (65 : Int32)), (.int (90 : Int32)), (.int (95 : Int32)), (.int (97 : Int32)), (.int (122 : Int32)), (.int (192 : Int32)), (.int (214 : Int32)), (.int (216 : Int32)), (.int (246 : Int32)), (.int (248 : Int32)), (.int (767 : Int32)), (.int (880 : Int32)), (.int (893 : Int32)), (.int (895 : Int32)), (.int (8191 : Int32)), (.int (8204 : Int32)), (.int (8205 : Int32)), (.int (8304 : Int32)), (.int (8591 : Int32)), (.int (0 : Int32)), (.int (0 : Int32)), (.int (0 : Int32)), (.int (0 : Int32)), (.int (0 : Int32)), (.int (0 : Int32)), (.int (0 : Int32)), (.int (0 : Int32)), (.int (0 : Int32)), (.int (0 : Int32))] (.int (0 : Int32)) := Arv.set Ar39 q39 S39 N39 H39 G39 rfl W39 18 rfl (Nat.le_of_ble_eq_true rfl)
  have NF39 := Fr.snoc X39 NF37 g_b1
  have SZ39 : n0 ≤ h39.size := (Nat.le_trans SZ37 (Keep.of_wr W39).1)
  refine own_pre (F' := T39.setTop (mkF m 126 #[.val (.int p0), .val (.int p1), .val (.int p2), .unset, .unset, .unset, .unset] [(.ref b1)])) (fun t k => st' t k) ?_
  refine own_pre (F' := T39.setTop (mkF m 127 #[.val (.int p0), .val (.int p1), .val (.int p2), .unset, .unset, .unset, .unset] [(.ref b1), (.ref b1)])) (fun _ k => XS.dup X39.here hx rfl (hb hby at_126) rfl rfl k) ?_
  refine own_pre (F' := T39.setTop (mkF m 129 #[.val (.int p0), .val (.int p1), .val (.int p2), .unset, .unset, .unset, .unset] [(.int (19 : Int32)), (.ref b1), (.ref b1)])) (fun _ k => XS.bipush X39.here hx rfl (hb hby at_127) k) ?_
  refine own_pre (F' := T39.setTop (mkF m 132 #[.val (.int p0), .val (.int p1), .val (.int p2), .unset, .unset, .unset, .unset] [(.int (11264 : Int32)), (.int (19 : Int32)), (.ref b1), (.ref b1)])) (fun _ k => XS.sipush X39.here hx rfl (hb hby at_129) k) ?_
  obtain ⟨cl41, Ar41, q41, S41, N41, H41, G41⟩ := f40
  have hin41 : ¬ ((19 : Int32) < 0 ∨ cl41.slots.size ≤ ((19 : Int32)).toNatClampNeg) := inb_of S41 ⟨by decide, by decide⟩
  obtain ⟨T41, h41, X41, e41, W41, st'⟩ := stI X39 hx hZ e39 Ar41 (j := (19 : Int32)) hin41 (g := (mkF m 132 #[.val (.int p0), .val (.int p1), .val (.int p2), .unset, .unset, .unset, .unset] [(.int (11264 : Int32)), (.int (19 : Int32)), (.ref b1), (.ref b1)])) rfl rfl (hb hby at_132)
  have f42 : Arv Z h41 b1 k1 .int (29 : Int32) [(.int (65 : Int32)), (.int (90 : Int32)), (.int (95 : Int32)), (.int (97 : Int32)), (.int (122 : Int32)), (.int (192 : Int32)), (.int (214 : Int32)), (.int (216 : Int32)), (.int (246 : Int32)), (.int (248 : Int32)), (.int (767 : Int32)), (.int (880 : Int32)), (.int (893 : Int32)), (.int (895 : Int32)), (.int (8191 : Int32)), (.int (8204 : Int32)), (.int (8205 : Int32)), (.int (8304 : Int32)), (.int (8591 : Int32)), (.int (11264 : Int32)), (.int (0 : Int32)), (.int (0 : Int32)), (.int (0 : Int32)), (.int (0 : Int32)), (.int (0 : Int32)), (.int (0 : Int32)), (.int (0 : Int32)), (.int (0 : Int32)), (.int (0 : Int32))] (.int (0 : Int32)) := Arv.set Ar41 q41 S41 N41 H41 G41 rfl W41 19 rfl (Nat.le_of_ble_eq_true rfl)
  have NF41 := Fr.snoc X41 NF39 g_b1
  have SZ41 : n0 ≤ h41.size := (Nat.le_trans SZ39 (Keep.of_wr W41).1)
  refine own_pre (F' := T41.setTop (mkF m 133 #[.val (.int p0), .val (.int p1), .val (.int p2), .unset, .unset, .unset, .unset] [(.ref b1)])) (fun t k => st' t k) ?_
  refine own_pre (F' := T41.setTop (mkF m 134 #[.val (.int p0), .val (.int p1), .val (.int p2), .unset, .unset, .unset, .unset] [(.ref b1), (.ref b1)])) (fun _ k => XS.dup X41.here hx rfl (hb hby at_133) rfl rfl k) ?_
  refine own_pre (F' := T41.setTop (mkF m 136 #[.val (.int p0), .val (.int p1), .val (.int p2), .unset, .unset, .unset, .unset] [(.int (20 : Int32)), (.ref b1), (.ref b1)])) (fun _ k => XS.bipush X41.here hx rfl (hb hby at_134) k) ?_
  refine own_pre (F' := T41.setTop (mkF m 139 #[.val (.int p0), .val (.int p1), .val (.int p2), .unset, .unset, .unset, .unset] [(.int (12271 : Int32)), (.int (20 : Int32)), (.ref b1), (.ref b1)])) (fun _ k => XS.sipush X41.here hx rfl (hb hby at_136) k) ?_
  obtain ⟨cl43, Ar43, q43, S43, N43, H43, G43⟩ := f42
  have hin43 : ¬ ((20 : Int32) < 0 ∨ cl43.slots.size ≤ ((20 : Int32)).toNatClampNeg) := inb_of S43 ⟨by decide, by decide⟩
  obtain ⟨T43, h43, X43, e43, W43, st'⟩ := stI X41 hx hZ e41 Ar43 (j := (20 : Int32)) hin43 (g := (mkF m 139 #[.val (.int p0), .val (.int p1), .val (.int p2), .unset, .unset, .unset, .unset] [(.int (12271 : Int32)), (.int (20 : Int32)), (.ref b1), (.ref b1)])) rfl rfl (hb hby at_139)
  have f44 : Arv Z h43 b1 k1 .int (29 : Int32) [(.int (65 : Int32)), (.int (90 : Int32)), (.int (95 : Int32)), (.int (97 : Int32)), (.int (122 : Int32)), (.int (192 : Int32)), (.int (214 : Int32)), (.int (216 : Int32)), (.int (246 : Int32)), (.int (248 : Int32)), (.int (767 : Int32)), (.int (880 : Int32)), (.int (893 : Int32)), (.int (895 : Int32)), (.int (8191 : Int32)), (.int (8204 : Int32)), (.int (8205 : Int32)), (.int (8304 : Int32)), (.int (8591 : Int32)), (.int (11264 : Int32)), (.int (12271 : Int32)), (.int (0 : Int32)), (.int (0 : Int32)), (.int (0 : Int32)), (.int (0 : Int32)), (.int (0 : Int32)), (.int (0 : Int32)), (.int (0 : Int32)), (.int (0 : Int32))] (.int (0 : Int32)) := Arv.set Ar43 q43 S43 N43 H43 G43 rfl W43 20 rfl (Nat.le_of_ble_eq_true rfl)
  have NF43 := Fr.snoc X43 NF41 g_b1
  have SZ43 : n0 ≤ h43.size := (Nat.le_trans SZ41 (Keep.of_wr W43).1)
  refine own_pre (F' := T43.setTop (mkF m 140 #[.val (.int p0), .val (.int p1), .val (.int p2), .unset, .unset, .unset, .unset] [(.ref b1)])) (fun t k => st' t k) ?_
  refine own_pre (F' := T43.setTop (mkF m 141 #[.val (.int p0), .val (.int p1), .val (.int p2), .unset, .unset, .unset, .unset] [(.ref b1), (.ref b1)])) (fun _ k => XS.dup X43.here hx rfl (hb hby at_140) rfl rfl k) ?_
  refine own_pre (F' := T43.setTop (mkF m 143 #[.val (.int p0), .val (.int p1), .val (.int p2), .unset, .unset, .unset, .unset] [(.int (21 : Int32)), (.ref b1), (.ref b1)])) (fun _ k => XS.bipush X43.here hx rfl (hb hby at_141) k) ?_
  refine own_pre (F' := T43.setTop (mkF m 146 #[.val (.int p0), .val (.int p1), .val (.int p2), .unset, .unset, .unset, .unset] [(.int (12289 : Int32)), (.int (21 : Int32)), (.ref b1), (.ref b1)])) (fun _ k => XS.sipush X43.here hx rfl (hb hby at_143) k) ?_
  obtain ⟨cl45, Ar45, q45, S45, N45, H45, G45⟩ := f44
  have hin45 : ¬ ((21 : Int32) < 0 ∨ cl45.slots.size ≤ ((21 : Int32)).toNatClampNeg) := inb_of S45 ⟨by decide, by decide⟩
  obtain ⟨T45, h45, X45, e45, W45, st'⟩ := stI X43 hx hZ e43 Ar45 (j := (21 : Int32)) hin45 (g := (mkF m 146 #[.val (.int p0), .val (.int p1), .val (.int p2), .unset, .unset, .unset, .unset] [(.int (12289 : Int32)), (.int (21 : Int32)), (.ref b1), (.ref b1)])) rfl rfl (hb hby at_146)
  have f46 : Arv Z h45 b1 k1 .int (29 : Int32) [(.int (65 : Int32)), (.int (90 : Int32)), (.int (95 : Int32)), (.int (97 : Int32)), (.int (122 : Int32)), (.int (192 : Int32)), (.int (214 : Int32)), (.int (216 : Int32)), (.int (246 : Int32)), (.int (248 : Int32)), (.int (767 : Int32)), (.int (880 : Int32)), (.int (893 : Int32)), (.int (895 : Int32)), (.int (8191 : Int32)), (.int (8204 : Int32)), (.int (8205 : Int32)), (.int (8304 : Int32)), (.int (8591 : Int32)), (.int (11264 : Int32)), (.int (12271 : Int32)), (.int (12289 : Int32)), (.int (0 : Int32)), (.int (0 : Int32)), (.int (0 : Int32)), (.int (0 : Int32)), (.int (0 : Int32)), (.int (0 : Int32)), (.int (0 : Int32))] (.int (0 : Int32)) := Arv.set Ar45 q45 S45 N45 H45 G45 rfl W45 21 rfl (Nat.le_of_ble_eq_true rfl)
  have NF45 := Fr.snoc X45 NF43 g_b1
  have SZ45 : n0 ≤ h45.size := (Nat.le_trans SZ43 (Keep.of_wr W45).1)
  refine own_pre (F' := T45.setTop (mkF m 147 #[.val (.int p0), .val (.int p1), .val (.int p2), .unset, .unset, .unset, .unset] [(.ref b1)])) (fun t k => st' t k) ?_
  refine own_pre (F' := T45.setTop (mkF m 148 #[.val (.int p0), .val (.int p1), .val (.int p2), .unset, .unset, .unset, .unset] [(.ref b1), (.ref b1)])) (fun _ k => XS.dup X45.here hx rfl (hb hby at_147) rfl rfl k) ?_
  refine own_pre (F' := T45.setTop (mkF m 150 #[.val (.int p0), .val (.int p1), .val (.int p2), .unset, .unset, .unset, .unset] [(.int (22 : Int32)), (.ref b1), (.ref b1)])) (fun _ k => XS.bipush X45.here hx rfl (hb hby at_148) k) ?_
  refine own_pre (F' := T45.setTop (mkF m 152 #[.val (.int p0), .val (.int p1), .val (.int p2), .unset, .unset, .unset, .unset] [(.int (55295 : Int32)), (.int (22 : Int32)), (.ref b1), (.ref b1)])) (fun _ k => X45.ldcInt hx hown (mvT hZ (hw _ (List.mem_of_getElem? (i := 1) rfl))) (g := (mkF m 150 #[.val (.int p0), .val (.int p1), .val (.int p2), .unset, .unset, .unset, .unset] [(.int (22 : Int32)), (.ref b1), (.ref b1)])) rfl (hb hby at_150) _ k) ?_
  obtain ⟨cl47, Ar47, q47, S47, N47, H47, G47⟩ := f46
  have hin47 : ¬ ((22 : Int32) < 0 ∨ cl47.slots.size ≤ ((22 : Int32)).toNatClampNeg) := inb_of S47 ⟨by decide, by decide⟩
  obtain ⟨T47, h47, X47, e47, W47, st'⟩ := stI X45 hx hZ e45 Ar47 (j := (22 : Int32)) hin47 (g := (mkF m 152 #[.val (.int p0), .val (.int p1), .val (.int p2), .unset, .unset, .unset, .unset] [(.int (55295 : Int32)), (.int (22 : Int32)), (.ref b1), (.ref b1)])) rfl rfl (hb hby at_152)
  have f48 : Arv Z h47 b1 k1 .int (29 : Int32) [(.int (65 : Int32)), (.int (90 : Int32)), (.int (95 : Int32)), (.int (97 : Int32)), (.int (122 : Int32)), (.int (192 : Int32)), (.int (214 : Int32)), (.int (216 : Int32)), (.int (246 : Int32)), (.int (248 : Int32)), (.int (767 : Int32)), (.int (880 : Int32)), (.int (893 : Int32)), (.int (895 : Int32)), (.int (8191 : Int32)), (.int (8204 : Int32)), (.int (8205 : Int32)), (.int (8304 : Int32)), (.int (8591 : Int32)), (.int (11264 : Int32)), (.int (12271 : Int32)), (.int (12289 : Int32)), (.int (55295 : Int32)), (.int (0 : Int32)), (.int (0 : Int32)), (.int (0 : Int32)), (.int (0 : Int32)), (.int (0 : Int32)), (.int (0 : Int32))] (.int (0 : Int32)) := Arv.set Ar47 q47 S47 N47 H47 G47 rfl W47 22 rfl (Nat.le_of_ble_eq_true rfl)
  have NF47 := Fr.snoc X47 NF45 g_b1
  have SZ47 : n0 ≤ h47.size := (Nat.le_trans SZ45 (Keep.of_wr W47).1)
  refine own_pre (F' := T47.setTop (mkF m 153 #[.val (.int p0), .val (.int p1), .val (.int p2), .unset, .unset, .unset, .unset] [(.ref b1)])) (fun t k => st' t k) ?_
  refine own_pre (F' := T47.setTop (mkF m 154 #[.val (.int p0), .val (.int p1), .val (.int p2), .unset, .unset, .unset, .unset] [(.ref b1), (.ref b1)])) (fun _ k => XS.dup X47.here hx rfl (hb hby at_153) rfl rfl k) ?_
  refine own_pre (F' := T47.setTop (mkF m 156 #[.val (.int p0), .val (.int p1), .val (.int p2), .unset, .unset, .unset, .unset] [(.int (23 : Int32)), (.ref b1), (.ref b1)])) (fun _ k => XS.bipush X47.here hx rfl (hb hby at_154) k) ?_
  refine own_pre (F' := T47.setTop (mkF m 158 #[.val (.int p0), .val (.int p1), .val (.int p2), .unset, .unset, .unset, .unset] [(.int (63744 : Int32)), (.int (23 : Int32)), (.ref b1), (.ref b1)])) (fun _ k => X47.ldcInt hx hown (mvT hZ (hw _ (List.mem_of_getElem? (i := 2) rfl))) (g := (mkF m 156 #[.val (.int p0), .val (.int p1), .val (.int p2), .unset, .unset, .unset, .unset] [(.int (23 : Int32)), (.ref b1), (.ref b1)])) rfl (hb hby at_156) _ k) ?_
  obtain ⟨cl49, Ar49, q49, S49, N49, H49, G49⟩ := f48
  have hin49 : ¬ ((23 : Int32) < 0 ∨ cl49.slots.size ≤ ((23 : Int32)).toNatClampNeg) := inb_of S49 ⟨by decide, by decide⟩
  obtain ⟨T49, h49, X49, e49, W49, st'⟩ := stI X47 hx hZ e47 Ar49 (j := (23 : Int32)) hin49 (g := (mkF m 158 #[.val (.int p0), .val (.int p1), .val (.int p2), .unset, .unset, .unset, .unset] [(.int (63744 : Int32)), (.int (23 : Int32)), (.ref b1), (.ref b1)])) rfl rfl (hb hby at_158)
  have f50 : Arv Z h49 b1 k1 .int (29 : Int32) [(.int (65 : Int32)), (.int (90 : Int32)), (.int (95 : Int32)), (.int (97 : Int32)), (.int (122 : Int32)), (.int (192 : Int32)), (.int (214 : Int32)), (.int (216 : Int32)), (.int (246 : Int32)), (.int (248 : Int32)), (.int (767 : Int32)), (.int (880 : Int32)), (.int (893 : Int32)), (.int (895 : Int32)), (.int (8191 : Int32)), (.int (8204 : Int32)), (.int (8205 : Int32)), (.int (8304 : Int32)), (.int (8591 : Int32)), (.int (11264 : Int32)), (.int (12271 : Int32)), (.int (12289 : Int32)), (.int (55295 : Int32)), (.int (63744 : Int32)), (.int (0 : Int32)), (.int (0 : Int32)), (.int (0 : Int32)), (.int (0 : Int32)), (.int (0 : Int32))] (.int (0 : Int32)) := Arv.set Ar49 q49 S49 N49 H49 G49 rfl W49 23 rfl (Nat.le_of_ble_eq_true rfl)
  have NF49 := Fr.snoc X49 NF47 g_b1
  have SZ49 : n0 ≤ h49.size := (Nat.le_trans SZ47 (Keep.of_wr W49).1)
  refine own_pre (F' := T49.setTop (mkF m 159 #[.val (.int p0), .val (.int p1), .val (.int p2), .unset, .unset, .unset, .unset] [(.ref b1)])) (fun t k => st' t k) ?_
  refine own_pre (F' := T49.setTop (mkF m 160 #[.val (.int p0), .val (.int p1), .val (.int p2), .unset, .unset, .unset, .unset] [(.ref b1), (.ref b1)])) (fun _ k => XS.dup X49.here hx rfl (hb hby at_159) rfl rfl k) ?_
  refine own_pre (F' := T49.setTop (mkF m 162 #[.val (.int p0), .val (.int p1), .val (.int p2), .unset, .unset, .unset, .unset] [(.int (24 : Int32)), (.ref b1), (.ref b1)])) (fun _ k => XS.bipush X49.here hx rfl (hb hby at_160) k) ?_
  refine own_pre (F' := T49.setTop (mkF m 164 #[.val (.int p0), .val (.int p1), .val (.int p2), .unset, .unset, .unset, .unset] [(.int (64975 : Int32)), (.int (24 : Int32)), (.ref b1), (.ref b1)])) (fun _ k => X49.ldcInt hx hown (mvT hZ (hw _ (List.mem_of_getElem? (i := 3) rfl))) (g := (mkF m 162 #[.val (.int p0), .val (.int p1), .val (.int p2), .unset, .unset, .unset, .unset] [(.int (24 : Int32)), (.ref b1), (.ref b1)])) rfl (hb hby at_162) _ k) ?_
  obtain ⟨cl51, Ar51, q51, S51, N51, H51, G51⟩ := f50
  have hin51 : ¬ ((24 : Int32) < 0 ∨ cl51.slots.size ≤ ((24 : Int32)).toNatClampNeg) := inb_of S51 ⟨by decide, by decide⟩
  obtain ⟨T51, h51, X51, e51, W51, st'⟩ := stI X49 hx hZ e49 Ar51 (j := (24 : Int32)) hin51 (g := (mkF m 164 #[.val (.int p0), .val (.int p1), .val (.int p2), .unset, .unset, .unset, .unset] [(.int (64975 : Int32)), (.int (24 : Int32)), (.ref b1), (.ref b1)])) rfl rfl (hb hby at_164)
  have f52 : Arv Z h51 b1 k1 .int (29 : Int32) [(.int (65 : Int32)), (.int (90 : Int32)), (.int (95 : Int32)), (.int (97 : Int32)), (.int (122 : Int32)), (.int (192 : Int32)), (.int (214 : Int32)), (.int (216 : Int32)), (.int (246 : Int32)), (.int (248 : Int32)), (.int (767 : Int32)), (.int (880 : Int32)), (.int (893 : Int32)), (.int (895 : Int32)), (.int (8191 : Int32)), (.int (8204 : Int32)), (.int (8205 : Int32)), (.int (8304 : Int32)), (.int (8591 : Int32)), (.int (11264 : Int32)), (.int (12271 : Int32)), (.int (12289 : Int32)), (.int (55295 : Int32)), (.int (63744 : Int32)), (.int (64975 : Int32)), (.int (0 : Int32)), (.int (0 : Int32)), (.int (0 : Int32)), (.int (0 : Int32))] (.int (0 : Int32)) := Arv.set Ar51 q51 S51 N51 H51 G51 rfl W51 24 rfl (Nat.le_of_ble_eq_true rfl)
  have NF51 := Fr.snoc X51 NF49 g_b1
  have SZ51 : n0 ≤ h51.size := (Nat.le_trans SZ49 (Keep.of_wr W51).1)
  refine own_pre (F' := T51.setTop (mkF m 165 #[.val (.int p0), .val (.int p1), .val (.int p2), .unset, .unset, .unset, .unset] [(.ref b1)])) (fun t k => st' t k) ?_
  refine own_pre (F' := T51.setTop (mkF m 166 #[.val (.int p0), .val (.int p1), .val (.int p2), .unset, .unset, .unset, .unset] [(.ref b1), (.ref b1)])) (fun _ k => XS.dup X51.here hx rfl (hb hby at_165) rfl rfl k) ?_
  refine own_pre (F' := T51.setTop (mkF m 168 #[.val (.int p0), .val (.int p1), .val (.int p2), .unset, .unset, .unset, .unset] [(.int (25 : Int32)), (.ref b1), (.ref b1)])) (fun _ k => XS.bipush X51.here hx rfl (hb hby at_166) k) ?_
  refine own_pre (F' := T51.setTop (mkF m 170 #[.val (.int p0), .val (.int p1), .val (.int p2), .unset, .unset, .unset, .unset] [(.int (65008 : Int32)), (.int (25 : Int32)), (.ref b1), (.ref b1)])) (fun _ k => X51.ldcInt hx hown (mvT hZ (hw _ (List.mem_of_getElem? (i := 4) rfl))) (g := (mkF m 168 #[.val (.int p0), .val (.int p1), .val (.int p2), .unset, .unset, .unset, .unset] [(.int (25 : Int32)), (.ref b1), (.ref b1)])) rfl (hb hby at_168) _ k) ?_
  obtain ⟨cl53, Ar53, q53, S53, N53, H53, G53⟩ := f52
  have hin53 : ¬ ((25 : Int32) < 0 ∨ cl53.slots.size ≤ ((25 : Int32)).toNatClampNeg) := inb_of S53 ⟨by decide, by decide⟩
  obtain ⟨T53, h53, X53, e53, W53, st'⟩ := stI X51 hx hZ e51 Ar53 (j := (25 : Int32)) hin53 (g := (mkF m 170 #[.val (.int p0), .val (.int p1), .val (.int p2), .unset, .unset, .unset, .unset] [(.int (65008 : Int32)), (.int (25 : Int32)), (.ref b1), (.ref b1)])) rfl rfl (hb hby at_170)
  have f54 : Arv Z h53 b1 k1 .int (29 : Int32) [(.int (65 : Int32)), (.int (90 : Int32)), (.int (95 : Int32)), (.int (97 : Int32)), (.int (122 : Int32)), (.int (192 : Int32)), (.int (214 : Int32)), (.int (216 : Int32)), (.int (246 : Int32)), (.int (248 : Int32)), (.int (767 : Int32)), (.int (880 : Int32)), (.int (893 : Int32)), (.int (895 : Int32)), (.int (8191 : Int32)), (.int (8204 : Int32)), (.int (8205 : Int32)), (.int (8304 : Int32)), (.int (8591 : Int32)), (.int (11264 : Int32)), (.int (12271 : Int32)), (.int (12289 : Int32)), (.int (55295 : Int32)), (.int (63744 : Int32)), (.int (64975 : Int32)), (.int (65008 : Int32)), (.int (0 : Int32)), (.int (0 : Int32)), (.int (0 : Int32))] (.int (0 : Int32)) := Arv.set Ar53 q53 S53 N53 H53 G53 rfl W53 25 rfl (Nat.le_of_ble_eq_true rfl)
  have NF53 := Fr.snoc X53 NF51 g_b1
  have SZ53 : n0 ≤ h53.size := (Nat.le_trans SZ51 (Keep.of_wr W53).1)
  refine own_pre (F' := T53.setTop (mkF m 171 #[.val (.int p0), .val (.int p1), .val (.int p2), .unset, .unset, .unset, .unset] [(.ref b1)])) (fun t k => st' t k) ?_
  refine own_pre (F' := T53.setTop (mkF m 172 #[.val (.int p0), .val (.int p1), .val (.int p2), .unset, .unset, .unset, .unset] [(.ref b1), (.ref b1)])) (fun _ k => XS.dup X53.here hx rfl (hb hby at_171) rfl rfl k) ?_
  refine own_pre (F' := T53.setTop (mkF m 174 #[.val (.int p0), .val (.int p1), .val (.int p2), .unset, .unset, .unset, .unset] [(.int (26 : Int32)), (.ref b1), (.ref b1)])) (fun _ k => XS.bipush X53.here hx rfl (hb hby at_172) k) ?_
  refine own_pre (F' := T53.setTop (mkF m 176 #[.val (.int p0), .val (.int p1), .val (.int p2), .unset, .unset, .unset, .unset] [(.int (65533 : Int32)), (.int (26 : Int32)), (.ref b1), (.ref b1)])) (fun _ k => X53.ldcInt hx hown (mvT hZ (hw _ (List.mem_of_getElem? (i := 5) rfl))) (g := (mkF m 174 #[.val (.int p0), .val (.int p1), .val (.int p2), .unset, .unset, .unset, .unset] [(.int (26 : Int32)), (.ref b1), (.ref b1)])) rfl (hb hby at_174) _ k) ?_
  obtain ⟨cl55, Ar55, q55, S55, N55, H55, G55⟩ := f54
  have hin55 : ¬ ((26 : Int32) < 0 ∨ cl55.slots.size ≤ ((26 : Int32)).toNatClampNeg) := inb_of S55 ⟨by decide, by decide⟩
  obtain ⟨T55, h55, X55, e55, W55, st'⟩ := stI X53 hx hZ e53 Ar55 (j := (26 : Int32)) hin55 (g := (mkF m 176 #[.val (.int p0), .val (.int p1), .val (.int p2), .unset, .unset, .unset, .unset] [(.int (65533 : Int32)), (.int (26 : Int32)), (.ref b1), (.ref b1)])) rfl rfl (hb hby at_176)
  have f56 : Arv Z h55 b1 k1 .int (29 : Int32) [(.int (65 : Int32)), (.int (90 : Int32)), (.int (95 : Int32)), (.int (97 : Int32)), (.int (122 : Int32)), (.int (192 : Int32)), (.int (214 : Int32)), (.int (216 : Int32)), (.int (246 : Int32)), (.int (248 : Int32)), (.int (767 : Int32)), (.int (880 : Int32)), (.int (893 : Int32)), (.int (895 : Int32)), (.int (8191 : Int32)), (.int (8204 : Int32)), (.int (8205 : Int32)), (.int (8304 : Int32)), (.int (8591 : Int32)), (.int (11264 : Int32)), (.int (12271 : Int32)), (.int (12289 : Int32)), (.int (55295 : Int32)), (.int (63744 : Int32)), (.int (64975 : Int32)), (.int (65008 : Int32)), (.int (65533 : Int32)), (.int (0 : Int32)), (.int (0 : Int32))] (.int (0 : Int32)) := Arv.set Ar55 q55 S55 N55 H55 G55 rfl W55 26 rfl (Nat.le_of_ble_eq_true rfl)
  have NF55 := Fr.snoc X55 NF53 g_b1
  have SZ55 : n0 ≤ h55.size := (Nat.le_trans SZ53 (Keep.of_wr W55).1)
  refine own_pre (F' := T55.setTop (mkF m 177 #[.val (.int p0), .val (.int p1), .val (.int p2), .unset, .unset, .unset, .unset] [(.ref b1)])) (fun t k => st' t k) ?_
  refine own_pre (F' := T55.setTop (mkF m 178 #[.val (.int p0), .val (.int p1), .val (.int p2), .unset, .unset, .unset, .unset] [(.ref b1), (.ref b1)])) (fun _ k => XS.dup X55.here hx rfl (hb hby at_177) rfl rfl k) ?_
  refine own_pre (F' := T55.setTop (mkF m 180 #[.val (.int p0), .val (.int p1), .val (.int p2), .unset, .unset, .unset, .unset] [(.int (27 : Int32)), (.ref b1), (.ref b1)])) (fun _ k => XS.bipush X55.here hx rfl (hb hby at_178) k) ?_
  refine own_pre (F' := T55.setTop (mkF m 182 #[.val (.int p0), .val (.int p1), .val (.int p2), .unset, .unset, .unset, .unset] [(.int (65536 : Int32)), (.int (27 : Int32)), (.ref b1), (.ref b1)])) (fun _ k => X55.ldcInt hx hown (mvT hZ (hw _ (List.mem_of_getElem? (i := 6) rfl))) (g := (mkF m 180 #[.val (.int p0), .val (.int p1), .val (.int p2), .unset, .unset, .unset, .unset] [(.int (27 : Int32)), (.ref b1), (.ref b1)])) rfl (hb hby at_180) _ k) ?_
  obtain ⟨cl57, Ar57, q57, S57, N57, H57, G57⟩ := f56
  have hin57 : ¬ ((27 : Int32) < 0 ∨ cl57.slots.size ≤ ((27 : Int32)).toNatClampNeg) := inb_of S57 ⟨by decide, by decide⟩
  obtain ⟨T57, h57, X57, e57, W57, st'⟩ := stI X55 hx hZ e55 Ar57 (j := (27 : Int32)) hin57 (g := (mkF m 182 #[.val (.int p0), .val (.int p1), .val (.int p2), .unset, .unset, .unset, .unset] [(.int (65536 : Int32)), (.int (27 : Int32)), (.ref b1), (.ref b1)])) rfl rfl (hb hby at_182)
  have f58 : Arv Z h57 b1 k1 .int (29 : Int32) [(.int (65 : Int32)), (.int (90 : Int32)), (.int (95 : Int32)), (.int (97 : Int32)), (.int (122 : Int32)), (.int (192 : Int32)), (.int (214 : Int32)), (.int (216 : Int32)), (.int (246 : Int32)), (.int (248 : Int32)), (.int (767 : Int32)), (.int (880 : Int32)), (.int (893 : Int32)), (.int (895 : Int32)), (.int (8191 : Int32)), (.int (8204 : Int32)), (.int (8205 : Int32)), (.int (8304 : Int32)), (.int (8591 : Int32)), (.int (11264 : Int32)), (.int (12271 : Int32)), (.int (12289 : Int32)), (.int (55295 : Int32)), (.int (63744 : Int32)), (.int (64975 : Int32)), (.int (65008 : Int32)), (.int (65533 : Int32)), (.int (65536 : Int32)), (.int (0 : Int32))] (.int (0 : Int32)) := Arv.set Ar57 q57 S57 N57 H57 G57 rfl W57 27 rfl (Nat.le_of_ble_eq_true rfl)
  have NF57 := Fr.snoc X57 NF55 g_b1
  have SZ57 : n0 ≤ h57.size := (Nat.le_trans SZ55 (Keep.of_wr W57).1)
  refine own_pre (F' := T57.setTop (mkF m 183 #[.val (.int p0), .val (.int p1), .val (.int p2), .unset, .unset, .unset, .unset] [(.ref b1)])) (fun t k => st' t k) ?_
  refine own_pre (F' := T57.setTop (mkF m 184 #[.val (.int p0), .val (.int p1), .val (.int p2), .unset, .unset, .unset, .unset] [(.ref b1), (.ref b1)])) (fun _ k => XS.dup X57.here hx rfl (hb hby at_183) rfl rfl k) ?_
  refine own_pre (F' := T57.setTop (mkF m 186 #[.val (.int p0), .val (.int p1), .val (.int p2), .unset, .unset, .unset, .unset] [(.int (28 : Int32)), (.ref b1), (.ref b1)])) (fun _ k => XS.bipush X57.here hx rfl (hb hby at_184) k) ?_
  refine own_pre (F' := T57.setTop (mkF m 188 #[.val (.int p0), .val (.int p1), .val (.int p2), .unset, .unset, .unset, .unset] [(.int (983039 : Int32)), (.int (28 : Int32)), (.ref b1), (.ref b1)])) (fun _ k => X57.ldcInt hx hown (mvT hZ (hw _ (List.mem_of_getElem? (i := 7) rfl))) (g := (mkF m 186 #[.val (.int p0), .val (.int p1), .val (.int p2), .unset, .unset, .unset, .unset] [(.int (28 : Int32)), (.ref b1), (.ref b1)])) rfl (hb hby at_186) _ k) ?_
  obtain ⟨cl59, Ar59, q59, S59, N59, H59, G59⟩ := f58
  have hin59 : ¬ ((28 : Int32) < 0 ∨ cl59.slots.size ≤ ((28 : Int32)).toNatClampNeg) := inb_of S59 ⟨by decide, by decide⟩
  obtain ⟨T59, h59, X59, e59, W59, st'⟩ := stI X57 hx hZ e57 Ar59 (j := (28 : Int32)) hin59 (g := (mkF m 188 #[.val (.int p0), .val (.int p1), .val (.int p2), .unset, .unset, .unset, .unset] [(.int (983039 : Int32)), (.int (28 : Int32)), (.ref b1), (.ref b1)])) rfl rfl (hb hby at_188)
  have f60 : Arv Z h59 b1 k1 .int (29 : Int32) [(.int (65 : Int32)), (.int (90 : Int32)), (.int (95 : Int32)), (.int (97 : Int32)), (.int (122 : Int32)), (.int (192 : Int32)), (.int (214 : Int32)), (.int (216 : Int32)), (.int (246 : Int32)), (.int (248 : Int32)), (.int (767 : Int32)), (.int (880 : Int32)), (.int (893 : Int32)), (.int (895 : Int32)), (.int (8191 : Int32)), (.int (8204 : Int32)), (.int (8205 : Int32)), (.int (8304 : Int32)), (.int (8591 : Int32)), (.int (11264 : Int32)), (.int (12271 : Int32)), (.int (12289 : Int32)), (.int (55295 : Int32)), (.int (63744 : Int32)), (.int (64975 : Int32)), (.int (65008 : Int32)), (.int (65533 : Int32)), (.int (65536 : Int32)), (.int (983039 : Int32))] (.int (0 : Int32)) := Arv.set Ar59 q59 S59 N59 H59 G59 rfl W59 28 rfl (Nat.le_of_ble_eq_true rfl)
  have NF59 := Fr.snoc X59 NF57 g_b1
  have SZ59 : n0 ≤ h59.size := (Nat.le_trans SZ57 (Keep.of_wr W59).1)
  refine own_pre (F' := T59.setTop (mkF m 189 #[.val (.int p0), .val (.int p1), .val (.int p2), .unset, .unset, .unset, .unset] [(.ref b1)])) (fun t k => st' t k) ?_
  refine own_pre (F' := T59.setTop (mkF m 190 #[.val (.int p0), .val (.int p1), .val (.int p2), .val (.ref b1), .unset, .unset, .unset] [])) (fun _ k => XS.astoreN X59.here hx rfl (hb hby at_189) rfl rfl (l' := #[.val (.int p0), .val (.int p1), .val (.int p2), .val (.ref b1), .unset, .unset, .unset]) rfl k) ?_
  refine own_pre (F' := T59.setTop (mkF m 191 #[.val (.int p0), .val (.int p1), .val (.int p2), .val (.ref b1), .unset, .unset, .unset] [(.ref b1)])) (fun _ k => XS.aloadN X59.here hx rfl (hb hby at_190) rfl rfl k) ?_
  refine own_pre (F' := T59.setTop (mkF m 192 #[.val (.int p0), .val (.int p1), .val (.int p2), .val (.ref b1), .unset, .unset, .unset] [(.int p1), (.ref b1)])) (fun _ k => XS.iloadN X59.here hx rfl (hb hby at_191) rfl k) ?_
  refine own_pre (F' := T59.setTop (mkF m 194 #[.val (.int p0), .val (.int p1), .val (.int p2), .val (.ref b1), .unset, .unset, .unset] [(.int (2147483647 : Int32)), (.int p1), (.ref b1)])) (fun _ k => X59.ldcInt hx hown (mvT hZ (hw _ (List.mem_of_getElem? (i := 8) rfl))) (g := (mkF m 192 #[.val (.int p0), .val (.int p1), .val (.int p2), .val (.ref b1), .unset, .unset, .unset] [(.int p1), (.ref b1)])) rfl (hb hby at_192) _ k) ?_
  refine own_pre (F' := T59.setTop (mkF m 195 #[.val (.int p0), .val (.int p1), .val (.int p2), .val (.ref b1), .unset, .unset, .unset] [(.int (p1 &&& (2147483647 : Int32))), (.ref b1)])) (fun _ k => XS.iand X59.here hx rfl (hb hby at_194) rfl k) ?_
  refine own_pre (F' := T59.setTop (mkF m 197 #[.val (.int p0), .val (.int p1), .val (.int p2), .val (.ref b1), .unset, .unset, .unset] [(.int (29 : Int32)), (.int (p1 &&& (2147483647 : Int32))), (.ref b1)])) (fun _ k => XS.bipush X59.here hx rfl (hb hby at_195) k) ?_
  refine own_pre (F' := T59.setTop (mkF m 198 #[.val (.int p0), .val (.int p1), .val (.int p2), .val (.ref b1), .unset, .unset, .unset] [(.int ((p1 &&& (2147483647 : Int32)) % (29 : Int32))), (.ref b1)])) (fun _ k => iremM X59 hx rfl (hb hby at_197) rfl (by decide) k) ?_
  obtain ⟨cl61, Ar61, q61, S61, N61, H61, G61⟩ := f60
  have hin61 : ¬ (((p1 &&& (2147483647 : Int32)) % (29 : Int32)) < 0 ∨ cl61.slots.size ≤ (((p1 &&& (2147483647 : Int32)) % (29 : Int32))).toNatClampNeg) := inb_of S61 (own_in _)
  refine own_pre (F' := T59.setTop (mkF m 199 #[.val (.int p0), .val (.int p1), .val (.int p2), .val (.ref b1), .unset, .unset, .unset] [(.int (own_edge ((p1 &&& (2147483647 : Int32)) % (29 : Int32))))])) (fun t k => X59.iaload hx (j := ((p1 &&& (2147483647 : Int32)) % (29 : Int32))) (v := (.int (own_edge ((p1 &&& (2147483647 : Int32)) % (29 : Int32))))) (by rw [e59]; exact Ar61.1) (State.isArrayOf_alike hZ.alike Ar61.2.1) Ar61.2.2 hin61 (H61.at hin61 (own_at _)) (g := (mkF m 198 #[.val (.int p0), .val (.int p1), .val (.int p2), .val (.ref b1), .unset, .unset, .unset] [(.int ((p1 &&& (2147483647 : Int32)) % (29 : Int32))), (.ref b1)])) rfl rfl (hb hby at_198) t k) ?_
  refine own_pre (F' := T59.setTop (mkF m 200 #[.val (.int p0), .val (.int p1), .val (.int p2), .val (.ref b1), .unset, .unset, .unset] [(.int p2), (.int (own_edge ((p1 &&& (2147483647 : Int32)) % (29 : Int32))))])) (fun _ k => XS.iloadN X59.here hx rfl (hb hby at_199) rfl k) ?_
  refine own_pre (F' := T59.setTop (mkF m 202 #[.val (.int p0), .val (.int p1), .val (.int p2), .val (.ref b1), .unset, .unset, .unset] [(.int (2147483647 : Int32)), (.int p2), (.int (own_edge ((p1 &&& (2147483647 : Int32)) % (29 : Int32))))])) (fun _ k => X59.ldcInt hx hown (mvT hZ (hw _ (List.mem_of_getElem? (i := 8) rfl))) (g := (mkF m 200 #[.val (.int p0), .val (.int p1), .val (.int p2), .val (.ref b1), .unset, .unset, .unset] [(.int p2), (.int (own_edge ((p1 &&& (2147483647 : Int32)) % (29 : Int32))))])) rfl (hb hby at_200) _ k) ?_
  refine own_pre (F' := T59.setTop (mkF m 203 #[.val (.int p0), .val (.int p1), .val (.int p2), .val (.ref b1), .unset, .unset, .unset] [(.int (p2 &&& (2147483647 : Int32))), (.int (own_edge ((p1 &&& (2147483647 : Int32)) % (29 : Int32))))])) (fun _ k => XS.iand X59.here hx rfl (hb hby at_202) rfl k) ?_
  refine own_pre (F' := T59.setTop (mkF m 204 #[.val (.int p0), .val (.int p1), .val (.int p2), .val (.ref b1), .unset, .unset, .unset] [(.int (5 : Int32)), (.int (p2 &&& (2147483647 : Int32))), (.int (own_edge ((p1 &&& (2147483647 : Int32)) % (29 : Int32))))])) (fun _ k => XS.iconst X59.here hx rfl (hb hby at_203) k) ?_
  refine own_pre (F' := T59.setTop (mkF m 205 #[.val (.int p0), .val (.int p1), .val (.int p2), .val (.ref b1), .unset, .unset, .unset] [(.int ((p2 &&& (2147483647 : Int32)) % (5 : Int32))), (.int (own_edge ((p1 &&& (2147483647 : Int32)) % (29 : Int32))))])) (fun _ k => iremM X59 hx rfl (hb hby at_204) rfl (by decide) k) ?_
  refine own_pre (F' := T59.setTop (mkF m 206 #[.val (.int p0), .val (.int p1), .val (.int p2), .val (.ref b1), .unset, .unset, .unset] [(.int ((own_edge ((p1 &&& (2147483647 : Int32)) % (29 : Int32))) + ((p2 &&& (2147483647 : Int32)) % (5 : Int32))))])) (fun _ k => XS.iadd X59.here hx rfl (hb hby at_205) rfl k) ?_
  refine own_pre (F' := T59.setTop (mkF m 207 #[.val (.int p0), .val (.int p1), .val (.int p2), .val (.ref b1), .unset, .unset, .unset] [(.int (2 : Int32)), (.int ((own_edge ((p1 &&& (2147483647 : Int32)) % (29 : Int32))) + ((p2 &&& (2147483647 : Int32)) % (5 : Int32))))])) (fun _ k => XS.iconst X59.here hx rfl (hb hby at_206) k) ?_
  refine own_pre (F' := T59.setTop (mkF m 208 #[.val (.int p0), .val (.int p1), .val (.int p2), .val (.ref b1), .unset, .unset, .unset] [(.int (((own_edge ((p1 &&& (2147483647 : Int32)) % (29 : Int32))) + ((p2 &&& (2147483647 : Int32)) % (5 : Int32))) - (2 : Int32)))])) (fun _ k => XS.isub X59.here hx rfl (hb hby at_207) rfl k) ?_
  refine own_pre (F' := T59.setTop (mkF m 210 #[.val (.int p0), .val (.int p1), .val (.int p2), .val (.ref b1), .val (.int (((own_edge ((p1 &&& (2147483647 : Int32)) % (29 : Int32))) + ((p2 &&& (2147483647 : Int32)) % (5 : Int32))) - (2 : Int32))), .unset, .unset] [])) (fun _ k => XS.istore X59.here hx rfl (hb hby at_208) rfl (l' := #[.val (.int p0), .val (.int p1), .val (.int p2), .val (.ref b1), .val (.int (((own_edge ((p1 &&& (2147483647 : Int32)) % (29 : Int32))) + ((p2 &&& (2147483647 : Int32)) % (5 : Int32))) - (2 : Int32))), .unset, .unset]) rfl k) ?_
  refine own_pre (F' := T59.setTop (mkF m 211 #[.val (.int p0), .val (.int p1), .val (.int p2), .val (.ref b1), .val (.int (((own_edge ((p1 &&& (2147483647 : Int32)) % (29 : Int32))) + ((p2 &&& (2147483647 : Int32)) % (5 : Int32))) - (2 : Int32))), .unset, .unset] [(.int p0)])) (fun _ k => XS.iloadN X59.here hx rfl (hb hby at_210) rfl k) ?_
  obtain ⟨Lg62, Xg62, NFg62⟩ : ∃ L, Stand p l e room_1 s m #[(.int p0), (.int p1), (.int p2)] below meth c T59 L 1 29 ∧ Fr n0 L := ⟨_, X59, NF59⟩
  obtain ⟨_, _, ⟨T63, L63, k63, n63⟩, -, X63', ⟨Lc63, hQ63, l63, y63, z63⟩, st'⟩ := Jvm.LawKit.callS Xg62 hx (y := (⟨"com/example/tsugiki/tsugiki/xml/XmlNames", "isNameStartChar", "(I)Z"⟩ : MethodName)) hown (mvT hZ (hw _ (List.mem_of_getElem? (i := 9) rfl))) (mvT hZ (hw _ (List.mem_of_getElem? (i := 10) rfl))) (mvT hZ (hw _ (List.mem_of_getElem? (i := 11) rfl))) (mvT hZ (hw _ (List.mem_of_getElem? (i := 12) rfl))) (by decide) (backOf (W := 0) (rm1 l Z aw hw [] p0 h59) hZ (hw _ (List.mem_of_getElem? (i := 12) rfl)) (hw _ (List.mem_of_getElem? (i := 11) rfl)) (by decide) (by decide)) (g := (mkF m 211 #[.val (.int p0), .val (.int p1), .val (.int p2), .val (.ref b1), .val (.int (((own_edge ((p1 &&& (2147483647 : Int32)) % (29 : Int32))) + ((p2 &&& (2147483647 : Int32)) % (5 : Int32))) - (2 : Int32))), .unset, .unset] [(.int p0)])) rfl (by rw [hml]; rfl) (argsL := [(.int p0)]) (rest := []) (lenOf own_pd0 rfl) rfl (by show 2 * 0 + _ ≤ _; exact Nat.le_of_eq rfl) (hb hby at_211) (fun _ _ => ⟨rfl, e59, (by decide : 1 + 0 ≤ _), (by decide : 29 + 0 ≤ _)⟩)
  dsimp only [Pt.U, Pt.locs, Pt.cells, Pt.slots] at X63' l63 y63 z63 st' hQ63
  subst l63 y63 z63
  obtain ⟨rfl, rfl, e63⟩ := hQ63
  have X63 : Stand p l e room_1 s m #[(.int p0), (.int p1), (.int p2)] below meth c T63 _ 1 29 := own_locs X63'
  refine own_pre (F' := T63.setTop (mkF m 214 #[.val (.int p0), .val (.int p1), .val (.int p2), .val (.ref b1), .val (.int (((own_edge ((p1 &&& (2147483647 : Int32)) % (29 : Int32))) + ((p2 &&& (2147483647 : Int32)) % (5 : Int32))) - (2 : Int32))), .unset, .unset] [(.int (f1_0 p0))])) (fun t k => st' t k) ?_
  refine own_pre (F' := T63.setTop (mkF m 215 #[.val (.int p0), .val (.int p1), .val (.int p2), .val (.ref b1), .val (.int (((own_edge ((p1 &&& (2147483647 : Int32)) % (29 : Int32))) + ((p2 &&& (2147483647 : Int32)) % (5 : Int32))) - (2 : Int32))), .unset, .unset] [(.int p0), (.int (f1_0 p0))])) (fun _ k => XS.iloadN X63.here hx rfl (hb hby at_214) rfl k) ?_
  obtain ⟨_, _, ⟨T64, L64, k64, n64⟩, -, X64', ⟨Lc64, hQ64, l64, y64, z64⟩, st'⟩ := Jvm.LawKit.callS X63 hx (y := (⟨"com/example/tsugiki/tsugiki/xml/XmlNamesIsNameStartCharPinLaw", "ref", "(I)Z"⟩ : MethodName)) hown (mvT hZ (hw _ (List.mem_of_getElem? (i := 16) rfl))) (mvT hZ (hw _ (List.mem_of_getElem? (i := 17) rfl))) (mvT hZ (hw _ (List.mem_of_getElem? (i := 18) rfl))) (mvT hZ (hw _ (List.mem_of_getElem? (i := 19) rfl))) (by decide) (backOf (W := 1) (rm2 l Z aw hw [] p0 h59) hZ (hw _ (List.mem_of_getElem? (i := 19) rfl)) (hw _ (List.mem_of_getElem? (i := 18) rfl)) (by decide) (by decide)) (g := (mkF m 215 #[.val (.int p0), .val (.int p1), .val (.int p2), .val (.ref b1), .val (.int (((own_edge ((p1 &&& (2147483647 : Int32)) % (29 : Int32))) + ((p2 &&& (2147483647 : Int32)) % (5 : Int32))) - (2 : Int32))), .unset, .unset] [(.int p0), (.int (f1_0 p0))])) rfl (by rw [hml]; rfl) (argsL := [(.int p0)]) (rest := [(.int (f1_0 p0))]) (lenOf own_pd0 rfl) rfl (by show 2 * 0 + _ ≤ _; exact Nat.le_of_eq rfl) (hb hby at_215) (fun _ _ => ⟨rfl, e63, (by decide : 1 + 0 ≤ _), (by decide : 29 + 0 ≤ _)⟩)
  dsimp only [Pt.U, Pt.locs, Pt.cells, Pt.slots] at X64' l64 y64 z64 st' hQ64
  subst l64 y64 z64
  obtain ⟨rfl, rfl, e64⟩ := hQ64
  have X64 : Stand p l e room_1 s m #[(.int p0), (.int p1), (.int p2)] below meth c T64 _ 1 29 := own_locs X64'
  refine own_pre (F' := T64.setTop (mkF m 218 #[.val (.int p0), .val (.int p1), .val (.int p2), .val (.ref b1), .val (.int (((own_edge ((p1 &&& (2147483647 : Int32)) % (29 : Int32))) + ((p2 &&& (2147483647 : Int32)) % (5 : Int32))) - (2 : Int32))), .unset, .unset] [(.int (f2_0 p0)), (.int (f1_0 p0))])) (fun t k => st' t k) ?_
  refine own_iteT R0 (K0 Z  h0 n0) (fun hc218 => ?_) (fun hc218 => ?_)
  · skip
    refine own_pre (F' := T64.setTop (mkF m 221 #[.val (.int p0), .val (.int p1), .val (.int p2), .val (.ref b1), .val (.int (((own_edge ((p1 &&& (2147483647 : Int32)) % (29 : Int32))) + ((p2 &&& (2147483647 : Int32)) % (5 : Int32))) - (2 : Int32))), .unset, .unset] [])) (fun _ k => XS.icmpNo X64.here hx rfl (hb hby at_218) rfl (teq hc218).2 k) ?_
    refine own_pre (F' := T64.setTop (mkF m 222 #[.val (.int p0), .val (.int p1), .val (.int p2), .val (.ref b1), .val (.int (((own_edge ((p1 &&& (2147483647 : Int32)) % (29 : Int32))) + ((p2 &&& (2147483647 : Int32)) % (5 : Int32))) - (2 : Int32))), .unset, .unset] [(.int (1 : Int32))])) (fun _ k => XS.iconst X64.here hx rfl (hb hby at_221) k) ?_
    refine own_pre (F' := T64.setTop (mkF m 226 #[.val (.int p0), .val (.int p1), .val (.int p2), .val (.ref b1), .val (.int (((own_edge ((p1 &&& (2147483647 : Int32)) % (29 : Int32))) + ((p2 &&& (2147483647 : Int32)) % (5 : Int32))) - (2 : Int32))), .unset, .unset] [(.int (1 : Int32))])) (fun _ k => XS.goto X64.here hx rfl (pc0 := 222) (pc' := 226) rfl (hb hby at_222) (by decide) (by decide) k) ?_
    exact g0_226 hw p0 p1 p2  b1 (((own_edge ((p1 &&& (2147483647 : Int32)) % (29 : Int32))) + ((p2 &&& (2147483647 : Int32)) % (5 : Int32))) - (2 : Int32)) (1 : Int32) Bd hml hZ T64 X64 e64 SZ59 NFg62
  · skip
    refine own_pre (F' := T64.setTop (mkF m 225 #[.val (.int p0), .val (.int p1), .val (.int p2), .val (.ref b1), .val (.int (((own_edge ((p1 &&& (2147483647 : Int32)) % (29 : Int32))) + ((p2 &&& (2147483647 : Int32)) % (5 : Int32))) - (2 : Int32))), .unset, .unset] [])) (fun _ k => XS.icmpYes X64.here hx rfl (pc0 := 218) (pc' := 225) rfl (hb hby at_218) rfl (feq hc218).2 (by decide) (by decide) k) ?_
    refine own_pre (F' := T64.setTop (mkF m 226 #[.val (.int p0), .val (.int p1), .val (.int p2), .val (.ref b1), .val (.int (((own_edge ((p1 &&& (2147483647 : Int32)) % (29 : Int32))) + ((p2 &&& (2147483647 : Int32)) % (5 : Int32))) - (2 : Int32))), .unset, .unset] [(.int (0 : Int32))])) (fun _ k => XS.iconst X64.here hx rfl (hb hby at_225) k) ?_
    exact g0_226 hw p0 p1 p2  b1 (((own_edge ((p1 &&& (2147483647 : Int32)) % (29 : Int32))) + ((p2 &&& (2147483647 : Int32)) % (5 : Int32))) - (2 : Int32)) (0 : Int32) Bd hml hZ T64 X64 e64 SZ59 NFg62
theorem ef_0 (m : MethodId) (p0 : Int32) (p1 : Int32) (p2 : Int32) : entryFrame m #[(.int p0), (.int p1), (.int p2)] maxLocals = mkF m 0 #[.val (.int p0), .val (.int p1), .val (.int p2), .unset, .unset, .unset, .unset] [] := by first | (simp [entryFrame, mkF, argsToLocals, Value.category, maxLocals]; done) | rfl
set_option maxRecDepth 65536 in
set_option maxHeartbeats 40000000 in
theorem rm0 (l : Launch) (Z : State) (aw : Array Value) (hw : ∀ d ∈ tables_1, d.before aw Z = true) (ws : List Jvm.Cond) (p0 : Int32) (p1 : Int32) (p2 : Int32)  (h0 : Heap) (n0 : Nat) (SZ0 : n0 ≤ h0.size) :
    MetFree l x (head1 (Jvm.Cond.code x code maxLocals ret :: ws) room_1) (fun a U => a = #[(.int p0), (.int p1), (.int p2)] ∧ Z.Warmed39 U.vm ∧ U.heap = h0) (fun _ _ _ _ _ => True) (fun _ U o U' => ∃ v L, o = .returned v ∧ own_Q (R0 (f0_0 p0 p1 p2)) (K0 Z  h0 n0 (f0_0 p0 p1 p2)) v U'.heap L ∧ FrameEnd U o U' L room_1.cells room_1.slots) := by
  refine MetFree.of_bodySF (plainFor_of_name own_pn1) hisR ?_
  intro p e s m args below meth c s₁ Bd hml0 hP hK
  obtain ⟨rfl, hZ, hh⟩ := hP
  have hml : c.maxLocals = 7 := hml0
  have e0 : s₁.heap = h0 := by rw [← hh, Bd.state]; rfl
  exact own_pre (fun t k => castTop (ef_0 m p0 p1 p2) k) (g0_0 hw p0 p1 p2  Bd hml hZ s₁ (Stand.of_body Bd) e0 SZ0 (Fr.nil n0))
theorem own_sp {P : Prop} [Decidable P] {a b v : Int32} (h1 : P → a = v) (h2 : ¬ P → b = v) : (if P then a else b) = v := by
  by_cases q : P
  · rw [if_pos q]; exact h1 q
  · rw [if_neg q]; exact h2 q
theorem own_lt (x y : Int32) : x < y ↔ x.toInt < y.toInt := Int32.lt_iff_toInt_lt
theorem own_rng (c lo hi a : Int32) (l h : Int) (hl : lo.toInt = l) (hh : hi.toInt = h) : (if c < lo then a else (if hi < c then a else (1 : Int32))) = if l ≤ c.toInt ∧ c.toInt ≤ h then 1 else a := by
  subst hl hh
  simp only [Int32.lt_iff_toInt_lt]
  by_cases h1 : c.toInt < lo.toInt
  · rw [if_pos h1, if_neg (by omega)]
  · by_cases h2 : hi.toInt < c.toInt
    · rw [if_neg h1, if_pos h2, if_neg (by omega)]
    · rw [if_neg h1, if_neg h2, if_pos (by omega)]
theorem own_f1_0 (c : Int32) : f1_0 c = if 65 ≤ c.toInt ∧ c.toInt ≤ 90 then 1 else f1_12 c := own_rng c 65 90 _ _ _ rfl rfl
theorem own_f1_12 (c : Int32) : f1_12 c = if c.toInt = 95 then 1 else if 97 ≤ c.toInt ∧ c.toInt ≤ 122 then 1 else f1_30 c := by
  have h := own_rng c 97 122 (f1_30 c) 97 122 rfl rfl
  by_cases q : c = 95
  · subst q; rfl
  · have q' : ¬ c.toInt = 95 := fun r => q (Int32.toInt_inj.mp r)
    rw [if_neg q', ← h]; exact if_neg q
theorem own_f1_30 (c : Int32) : f1_30 c = if 192 ≤ c.toInt ∧ c.toInt ≤ 214 then 1 else f1_44 c := own_rng c 192 214 _ _ _ rfl rfl
theorem own_f1_44 (c : Int32) : f1_44 c = if 216 ≤ c.toInt ∧ c.toInt ≤ 246 then 1 else f1_58 c := own_rng c 216 246 _ _ _ rfl rfl
theorem own_f1_58 (c : Int32) : f1_58 c = if 248 ≤ c.toInt ∧ c.toInt ≤ 767 then 1 else f1_72 c := own_rng c 248 767 _ _ _ rfl rfl
theorem own_f1_72 (c : Int32) : f1_72 c = if 880 ≤ c.toInt ∧ c.toInt ≤ 893 then 1 else f1_86 c := own_rng c 880 893 _ _ _ rfl rfl
theorem own_f1_86 (c : Int32) : f1_86 c = if 895 ≤ c.toInt ∧ c.toInt ≤ 8191 then 1 else f1_100 c := own_rng c 895 8191 _ _ _ rfl rfl
theorem own_f1_100 (c : Int32) : f1_100 c = if 8204 ≤ c.toInt ∧ c.toInt ≤ 8205 then 1 else f1_114 c := own_rng c 8204 8205 _ _ _ rfl rfl
theorem own_f1_114 (c : Int32) : f1_114 c = if 8304 ≤ c.toInt ∧ c.toInt ≤ 8591 then 1 else f1_128 c := own_rng c 8304 8591 _ _ _ rfl rfl
theorem own_f1_128 (c : Int32) : f1_128 c = if 11264 ≤ c.toInt ∧ c.toInt ≤ 12271 then 1 else f1_142 c := own_rng c 11264 12271 _ _ _ rfl rfl
theorem own_f1_142 (c : Int32) : f1_142 c = if 12289 ≤ c.toInt ∧ c.toInt ≤ 55295 then 1 else f1_155 c := own_rng c 12289 55295 _ _ _ rfl rfl
theorem own_f1_155 (c : Int32) : f1_155 c = if 63744 ≤ c.toInt ∧ c.toInt ≤ 64975 then 1 else f1_167 c := own_rng c 63744 64975 _ _ _ rfl rfl
theorem own_f1_167 (c : Int32) : f1_167 c = if 65008 ≤ c.toInt ∧ c.toInt ≤ 65533 then 1 else f1_179 c := own_rng c 65008 65533 _ _ _ rfl rfl
theorem own_f1_179 (c : Int32) : f1_179 c = if 65536 ≤ c.toInt ∧ c.toInt ≤ 983039 then 1 else f1_195 c := own_rng c 65536 983039 _ _ _ rfl rfl
theorem own_isP (c : Int32) : f1_0 c = if (65 ≤ c.toInt ∧ c.toInt ≤ 90) ∨ (95 ≤ c.toInt ∧ c.toInt ≤ 95) ∨ (97 ≤ c.toInt ∧ c.toInt ≤ 122) ∨ (192 ≤ c.toInt ∧ c.toInt ≤ 214) ∨ (216 ≤ c.toInt ∧ c.toInt ≤ 246) ∨ (248 ≤ c.toInt ∧ c.toInt ≤ 767) ∨ (880 ≤ c.toInt ∧ c.toInt ≤ 893) ∨ (895 ≤ c.toInt ∧ c.toInt ≤ 8191) ∨ (8204 ≤ c.toInt ∧ c.toInt ≤ 8205) ∨ (8304 ≤ c.toInt ∧ c.toInt ≤ 8591) ∨ (11264 ≤ c.toInt ∧ c.toInt ≤ 12271) ∨ (12289 ≤ c.toInt ∧ c.toInt ≤ 55295) ∨ (63744 ≤ c.toInt ∧ c.toInt ≤ 64975) ∨ (65008 ≤ c.toInt ∧ c.toInt ≤ 65533) ∨ (65536 ≤ c.toInt ∧ c.toInt ≤ 983039) then 1 else 0 := by
  rw [own_f1_0, own_f1_12, own_f1_30, own_f1_44, own_f1_58, own_f1_72, own_f1_86, own_f1_100, own_f1_114, own_f1_128, own_f1_142, own_f1_155, own_f1_167, own_f1_179]
  unfold f1_195
  by_cases hP : (65 ≤ c.toInt ∧ c.toInt ≤ 90) ∨ (95 ≤ c.toInt ∧ c.toInt ≤ 95) ∨ (97 ≤ c.toInt ∧ c.toInt ≤ 122) ∨ (192 ≤ c.toInt ∧ c.toInt ≤ 214) ∨ (216 ≤ c.toInt ∧ c.toInt ≤ 246) ∨ (248 ≤ c.toInt ∧ c.toInt ≤ 767) ∨ (880 ≤ c.toInt ∧ c.toInt ≤ 893) ∨ (895 ≤ c.toInt ∧ c.toInt ≤ 8191) ∨ (8204 ≤ c.toInt ∧ c.toInt ≤ 8205) ∨ (8304 ≤ c.toInt ∧ c.toInt ≤ 8591) ∨ (11264 ≤ c.toInt ∧ c.toInt ≤ 12271) ∨ (12289 ≤ c.toInt ∧ c.toInt ≤ 55295) ∨ (63744 ≤ c.toInt ∧ c.toInt ≤ 64975) ∨ (65008 ≤ c.toInt ∧ c.toInt ≤ 65533) ∨ (65536 ≤ c.toInt ∧ c.toInt ≤ 983039)
  · rw [if_pos hP]; (repeat' (refine own_sp (fun _ => ?_) (fun _ => ?_))) <;> first | rfl | (exfalso; omega)
  · rw [if_neg hP]; (repeat' (refine own_sp (fun _ => ?_) (fun _ => ?_))) <;> first | rfl | (exfalso; omega)
theorem own_refP (c : Int32) : f2_0 c = if (65 ≤ c.toInt ∧ c.toInt ≤ 90) ∨ (95 ≤ c.toInt ∧ c.toInt ≤ 95) ∨ (97 ≤ c.toInt ∧ c.toInt ≤ 122) ∨ (192 ≤ c.toInt ∧ c.toInt ≤ 214) ∨ (216 ≤ c.toInt ∧ c.toInt ≤ 246) ∨ (248 ≤ c.toInt ∧ c.toInt ≤ 767) ∨ (880 ≤ c.toInt ∧ c.toInt ≤ 893) ∨ (895 ≤ c.toInt ∧ c.toInt ≤ 8191) ∨ (8204 ≤ c.toInt ∧ c.toInt ≤ 8205) ∨ (8304 ≤ c.toInt ∧ c.toInt ≤ 8591) ∨ (11264 ≤ c.toInt ∧ c.toInt ≤ 12271) ∨ (12289 ≤ c.toInt ∧ c.toInt ≤ 55295) ∨ (63744 ≤ c.toInt ∧ c.toInt ≤ 64975) ∨ (65008 ≤ c.toInt ∧ c.toInt ≤ 65533) ∨ (65536 ≤ c.toInt ∧ c.toInt ≤ 983039) then 1 else 0 := by
  unfold f2_0
  have e95 : (c = (95 : Int32)) = (c.toInt = 95) := propext Int32.toInt_inj.symm
  have e215 : (c = (215 : Int32)) = (c.toInt = 215) := propext Int32.toInt_inj.symm
  have e247 : (c = (247 : Int32)) = (c.toInt = 247) := propext Int32.toInt_inj.symm
  have e894 : (c = (894 : Int32)) = (c.toInt = 894) := propext Int32.toInt_inj.symm
  simp only [Int32.lt_iff_toInt_lt, e95, e215, e247, e894, show (65 : Int32).toInt = 65 from rfl, show (90 : Int32).toInt = 90 from rfl, show (95 : Int32).toInt = 95 from rfl, show (97 : Int32).toInt = 97 from rfl, show (122 : Int32).toInt = 122 from rfl, show (192 : Int32).toInt = 192 from rfl, show (214 : Int32).toInt = 214 from rfl, show (215 : Int32).toInt = 215 from rfl, show (216 : Int32).toInt = 216 from rfl, show (246 : Int32).toInt = 246 from rfl, show (247 : Int32).toInt = 247 from rfl, show (248 : Int32).toInt = 248 from rfl, show (767 : Int32).toInt = 767 from rfl, show (880 : Int32).toInt = 880 from rfl, show (893 : Int32).toInt = 893 from rfl, show (894 : Int32).toInt = 894 from rfl, show (895 : Int32).toInt = 895 from rfl, show (8191 : Int32).toInt = 8191 from rfl, show (8204 : Int32).toInt = 8204 from rfl, show (8205 : Int32).toInt = 8205 from rfl, show (8304 : Int32).toInt = 8304 from rfl, show (8591 : Int32).toInt = 8591 from rfl, show (11264 : Int32).toInt = 11264 from rfl, show (12271 : Int32).toInt = 12271 from rfl, show (12289 : Int32).toInt = 12289 from rfl, show (55295 : Int32).toInt = 55295 from rfl, show (63744 : Int32).toInt = 63744 from rfl, show (64975 : Int32).toInt = 64975 from rfl, show (65008 : Int32).toInt = 65008 from rfl, show (65533 : Int32).toInt = 65533 from rfl, show (65536 : Int32).toInt = 65536 from rfl, show (983039 : Int32).toInt = 983039 from rfl]
  by_cases hP : (65 ≤ c.toInt ∧ c.toInt ≤ 90) ∨ (95 ≤ c.toInt ∧ c.toInt ≤ 95) ∨ (97 ≤ c.toInt ∧ c.toInt ≤ 122) ∨ (192 ≤ c.toInt ∧ c.toInt ≤ 214) ∨ (216 ≤ c.toInt ∧ c.toInt ≤ 246) ∨ (248 ≤ c.toInt ∧ c.toInt ≤ 767) ∨ (880 ≤ c.toInt ∧ c.toInt ≤ 893) ∨ (895 ≤ c.toInt ∧ c.toInt ≤ 8191) ∨ (8204 ≤ c.toInt ∧ c.toInt ≤ 8205) ∨ (8304 ≤ c.toInt ∧ c.toInt ≤ 8591) ∨ (11264 ≤ c.toInt ∧ c.toInt ≤ 12271) ∨ (12289 ≤ c.toInt ∧ c.toInt ≤ 55295) ∨ (63744 ≤ c.toInt ∧ c.toInt ≤ 64975) ∨ (65008 ≤ c.toInt ∧ c.toInt ≤ 65533) ∨ (65536 ≤ c.toInt ∧ c.toInt ≤ 983039)
  · rw [if_pos hP]; (repeat' (refine own_sp (fun _ => ?_) (fun _ => ?_))) <;> first | rfl | (exfalso; omega)
  · rw [if_neg hP]; (repeat' (refine own_sp (fun _ => ?_) (fun _ => ?_))) <;> first | rfl | (exfalso; omega)
theorem own_eq (c : Int32) : f1_0 c = f2_0 c := by rw [own_isP, own_refP]
theorem own_law (a b c : Int32) : f0_0 a b c = 1 := by
  simp only [f0_0, f0_226, f0_246, own_eq, if_true]
  rfl
set_option maxRecDepth 65536 in
set_option maxHeartbeats 40000000 in
theorem comes_1 {Post : Tables → Env → Array Value → State → Outcome → State → Prop} (hpost : ∀ tb e args s v u, (limb_1_1.after args s (.returned v) u = true ∧ limb_1_2.after args s (.returned v) u = true ∧ True) → FrameEnd s (.returned v) u (Jvm.fieldLocs frame_1_writes args s ++ Jvm.arrayLocs frame_1_arrays args s ++ Jvm.staticLocs frame_1_statics s) 16 128 → Post tb e args s (.returned v) u) :
    ArmFor flags0 classFile x code maxLocals ret World_1 tables_1 room_1 Calls_1 rest_1 Pre_1 Post := by
  intro l hfl _ _ p e ha hc hk s m args below hf hA hF happ hP
  obtain ⟨hcalls, hrest, hpre⟩ := hP
  obtain ⟨-, -, -, hnamed, -, -, -, hat⟩ := (Spec.applies_iff hf).mp happ
  obtain ⟨hg, hn⟩ := and_e (Cond.before_iff.mp (show (Jvm.Cond.and given_1 narrow_1).before args s = true from hpre))
  obtain ⟨g1, g2⟩ := and_e hg
  obtain ⟨g3, g4⟩ := and_e g2
  obtain ⟨g5, g6⟩ := and_e g4
  obtain ⟨w0, w1, w2, rfl⟩ : ∃ w0 w1 w2 : Value, args = #[w0, w1, w2] := by
    have hs : args.size = 3 := by simpa [Cond.value, given_1] using g1
    obtain ⟨L⟩ := args
    match L, hs with
    | [w0, w1, w2], _ => exact ⟨w0, w1, w2, rfl⟩
  have hw := fun d (hd : d ∈ tables_1) => atoms_spec (ws := Jvm.Cond.code x code maxLocals ret :: tables_1) hat d (List.mem_cons_of_mem _ hd)
  have hfit : Fit s := fun {y c} hc i hi => by
    obtain ⟨ha, rfl⟩ := Array.getElem?_eq_some_iff.mp hc
    have q := List.all_eq_true.mp ((Array.all_eq_true_iff_forall_mem.mp hF) _ (Array.getElem_mem ha)) i (List.mem_range.mpr hi)
    simpa [Array.getElem?_eq_getElem hi] using q
  obtain ⟨i0, ei0⟩ := is_v g3
  obtain rfl : w0 = (.int i0) := Option.some.inj ei0
  obtain ⟨i1, ei1⟩ := is_v g5
  obtain rfl : w1 = (.int i1) := Option.some.inj ei1
  obtain ⟨i2, ei2⟩ := is_v g6
  obtain rfl : w2 = (.int i2) := Option.some.inj ei2
  obtain ⟨n, o, h1, h2, h3, v, L, rfl, ⟨hv, hK⟩, hq⟩ := rm0 l s _ hw tables_1 i0 i1 i2 s.heap s.heap.size (Nat.le_refl _) p e ha hc hk s m _ below hf ((Spec.applies_iff_loose hf).mp happ).1 ⟨rfl, State.Warmed39.refl s, rfl⟩ trivial
  rw [R0, own_law] at hv
  subst hv
  refine ⟨n, _, h1, h2, h3, hpost _ _ _ _ _ _ ⟨Cond.after_iff.mpr rfl, Cond.after_iff.mpr (eq_i res_at (Term.int_eval (1)) rfl), trivial⟩ ⟨hq.1, hq.2.1, (hq.2.2.sift fun y hy => ?_).mono (by decide) (by decide)⟩⟩
  exact Or.inr (hK y hy)
theorem main_1_1 : Claimed_1_1 := comes_1 fun _ _ _ _ _ _ h hF => ⟨h.1, hF⟩
theorem main_1_2 : Claimed_1_2 := comes_1 fun _ _ _ _ _ _ h hF => ⟨h.2.1, hF⟩
end Jvm.Pilot.@@N@@
namespace Jvm.Pilot.@@N@@
open Jvm Jvm.ClassFile Sem Op Lib Jvm.Free Jvm.Stand Jvm.Pilot.@@N@@.Jvm.D
/-! MADE BY PROGRAM (witnessworld.py) out of the Statement's table words and the real class files: 9 classes; the members and pool entries that the words name. The judged class is class 1, her method 2. -/
namespace start1
open Jvm.ClassFile
def u (s : String) : CpInfo := .utf8 (stringToUtf16 s)
/-- a pool by its gaps: so many unusable entries, then the entry; so many at the end -/
def gap : Nat → List CpInfo → List CpInfo
  | 0, r => r
  | n + 1, r => .unusable :: gap n r
def poolList (es : List (Nat × CpInfo)) (last : Nat) : List CpInfo := es.foldr (fun e r => gap e.1 (e.2 :: r)) (gap last [])
def pool (es : List (Nat × CpInfo)) (last : Nat) : Array CpInfo := ⟨poolList es last⟩
def fileOf (pool : Array CpInfo) (this : Nat) (attrs : Array Attribute := #[]) (ms : Array MethodInfo := #[]) (fl : Nat := 33) (sup : Nat := 0) (ifs : Array Nat := #[]) (fds : Array FieldInfo := #[]) : ClassFile where
  minorVersion := 0
  majorVersion := 65
  constantPool := pool
  accessFlags := fl
  thisClass := this
  superClass := sup
  interfaces := ifs
  fields := fds
  methods := ms
  attributes := attrs
def plain (name : String) (sup : Option ClassId) : Class where
  name := name
  kind := .ordinary
  loader := none
  accessFlags := 33
  super := sup
  interfaces := #[]
  cf := none
  fields := #[]
  methods := #[]
  instanceTypes := #[]
  staticTypes := #[]
  resolved := #[]
  callSites := []
  init := .initialized
  statics := none
  mirror := none

def pool0 : Array CpInfo := pool [(5, u "<init>"), (0, u "()V"), (1, .class_ 10), (1, u "java/lang/Object")] 113

def k0m0 : Method := { name := "<init>", desc := "()V", sig := { parameters := [], returnType := none }, accessFlags := 1, code := none }
/-- java/lang/Object -/
def k0 : Class := { plain "java/lang/Object" none with
  accessFlags := 33
  interfaces := #[]
  cf := some (fileOf pool0 8 #[] #[{ accessFlags := 1, nameIndex := 5, descriptorIndex := 6, attributes := #[] }] 33 0 #[] #[])
  fields := #[]
  methods := #[k0m0]
  instanceTypes := #[]
  staticTypes := #[]
  resolved := Array.replicate 124 none
  statics := none }

def pool1 : Array CpInfo := pool [(2, .class_ 4), (1, u "java/lang/Object"), (0, u "<init>"), (0, u "()V"), (0, .integer 55295), (0, .integer 63744), (0, .integer 64975), (0, .integer 65008), (0, .integer 65533), (0, .integer 65536), (0, .integer 983039), (0, .integer 2147483647), (0, .methodref 16 17), (0, .class_ 18), (0, .nameAndType 19 20), (0, u "com/example/tsugiki/tsugiki/xml/XmlNames"), (0, u "isNameStartChar"), (0, u "(I)Z"), (0, .methodref 22 23), (0, .class_ 24), (0, .nameAndType 25 20), (0, u "com/example/tsugiki/tsugiki/xml/XmlNamesIsNameStartCharPinLaw"), (0, u "ref"), (3, u "law"), (0, u "(III)Z")] 4

def k1m0 : Method := { name := "<init>", desc := "()V", sig := { parameters := [], returnType := none }, accessFlags := 2, code := none }
def k1c1 : Code := { maxStack := 2, maxLocals := 1, code := method_2_code, exceptionTable := #[], attributes := #[] }
def k1m1 : Method := { name := "ref", desc := "(I)Z", sig := { parameters := [.int], returnType := some .boolean }, accessFlags := 10, code := some k1c1 }
def k1c2 : Code := { maxStack := 4, maxLocals := 7, code := code, exceptionTable := #[], attributes := #[] }
def k1m2 : Method := { name := "law", desc := "(III)Z", sig := { parameters := [.int, .int, .int], returnType := some .boolean }, accessFlags := 9, code := some k1c2 }
/-- com/example/tsugiki/tsugiki/xml/XmlNamesIsNameStartCharPinLaw -/
def k1 : Class := { plain "com/example/tsugiki/tsugiki/xml/XmlNamesIsNameStartCharPinLaw" (some 0) with
  accessFlags := 49
  interfaces := #[]
  cf := some (fileOf pool1 22 #[] #[{ accessFlags := 2, nameIndex := 5, descriptorIndex := 6, attributes := #[] }, { accessFlags := 10, nameIndex := 25, descriptorIndex := 20, attributes := #[] }, { accessFlags := 9, nameIndex := 29, descriptorIndex := 30, attributes := #[] }] 49 2 #[] #[])
  fields := #[]
  methods := #[k1m0, k1m1, k1m2]
  instanceTypes := #[]
  staticTypes := #[]
  resolved := Array.replicate 35 none
  statics := none }

def pool2 : Array CpInfo := pool [(2, .class_ 4), (1, u "java/lang/Object"), (0, u "<init>"), (0, u "()V"), (11, .class_ 20), (1, u "com/example/tsugiki/tsugiki/xml/XmlNames"), (0, u "isNameStartChar"), (0, u "(I)Z"), (18, .integer 55295), (0, .integer 63744), (0, .integer 64975), (0, .integer 65008), (0, .integer 65533), (0, .integer 65536), (0, .integer 983039)] 26

def k2m0 : Method := { name := "<init>", desc := "()V", sig := { parameters := [], returnType := none }, accessFlags := 2, code := none }
def k2c1 : Code := { maxStack := 2, maxLocals := 1, code := prog_63_method_3_code, exceptionTable := #[], attributes := #[] }
def k2m1 : Method := { name := "isNameStartChar", desc := "(I)Z", sig := { parameters := [.int], returnType := some .boolean }, accessFlags := 9, code := some k2c1 }
/-- com/example/tsugiki/tsugiki/xml/XmlNames -/
def k2 : Class := { plain "com/example/tsugiki/tsugiki/xml/XmlNames" (some 0) with
  accessFlags := 49
  interfaces := #[]
  cf := some (fileOf pool2 18 #[] #[{ accessFlags := 2, nameIndex := 5, descriptorIndex := 6, attributes := #[] }, { accessFlags := 9, nameIndex := 21, descriptorIndex := 22, attributes := #[] }] 49 2 #[] #[])
  fields := #[]
  methods := #[k2m0, k2m1]
  instanceTypes := #[]
  staticTypes := #[]
  resolved := Array.replicate 74 none
  statics := none }

def pool3 : Array CpInfo := pool [(1, u "java/lang/Cloneable"), (0, .class_ 1), (0, u "java/lang/Object"), (0, .class_ 3)] 3

/-- java/lang/Cloneable -/
def k3 : Class := { plain "java/lang/Cloneable" (some 0) with
  accessFlags := 1537
  interfaces := #[]
  cf := some (fileOf pool3 2 #[] #[] 1537 4 #[] #[])
  fields := #[]
  methods := #[]
  instanceTypes := #[]
  staticTypes := #[]
  resolved := Array.replicate 8 none
  statics := none }

def pool4 : Array CpInfo := pool [(1, u "java/io/Serializable"), (0, .class_ 1), (0, u "java/lang/Object"), (0, .class_ 3)] 3

/-- java/io/Serializable -/
def k4 : Class := { plain "java/io/Serializable" (some 0) with
  accessFlags := 1537
  interfaces := #[]
  cf := some (fileOf pool4 2 #[] #[] 1537 4 #[] #[])
  fields := #[]
  methods := #[]
  instanceTypes := #[]
  staticTypes := #[]
  resolved := Array.replicate 8 none
  statics := none }

/-- the primitive byte -/
def k5 : Class := { plain "byte" none with kind := .primitive 'B', accessFlags := 0x411 }
/-- [B -/
def k6 : Class := { plain "[B" (some 0) with kind := .array 5 .byte, interfaces := #[3, 4], accessFlags := 1041 }

/-- the primitive int -/
def k7 : Class := { plain "int" none with kind := .primitive 'I', accessFlags := 0x411 }
/-- [I -/
def k8 : Class := { plain "[I" (some 0) with kind := .array 7 .int, interfaces := #[3, 4], accessFlags := 1041 }

def heap : Heap := #[]
def classes : Array Class := #[k0, k1, k2, k3, k4, k5, k6, k7, k8]
def interned : List (Array UInt16 × Addr) := []
def slotsUsed : Nat := 0
def theMethod : MethodId := ⟨1, 2⟩
def args0 : Array Value := #[.int 5, .int 7, .int 5]
def aboutOver (below : List Frame) : State where
  vm := { classes := classes, interned := interned.toArray }
  heap := heap
  slotsUsed := slotsUsed
  threads := #[{ frames := .invoking theMethod args0 :: below }]
def below0 : List Frame := [.native { method := ⟨0, 0⟩, args := #[] }]
def about1 : State := aboutOver below0
def p0 : Program := .bare "" "" ""
def e0 : Env := launch0.env 0 0 0
theorem w_frames : about1.frames = Frame.invoking theMethod args0 :: below0 := rfl
set_option maxRecDepth 65536 in
theorem w_args : argsFit about1.vm theMethod args0 = true := by decide +kernel
set_option maxRecDepth 65536 in
theorem w_heap : heapFits about1 = true := by decide +kernel
set_option maxRecDepth 65536 in
theorem w_runnable : about1.curStatus? = some .runnable := by decide +kernel
set_option maxRecDepth 65536 in
theorem w_alone : about1.alone = true := by decide +kernel
set_option maxRecDepth 65536 in
theorem w_named : about1.methodNamed? x = some theMethod := by decide +kernel
set_option maxRecDepth 65536 in
theorem w_hears : about1.hears theMethod below0 = true := by decide +kernel
set_option maxRecDepth 65536 in
theorem w_ripe : about1.ripe theMethod args0 below0 = true := by decide +kernel
theorem w_running : about1.status = .running := rfl
set_option maxRecDepth 65536 in
theorem w_room : about1.hasRoom e0.platform room_1 = true :=
  launch0.hasRoom_least _ room_1 (by decide +kernel) (by decide +kernel) (by decide +kernel) (by decide +kernel) (by decide +kernel) (by decide +kernel)
theorem allAtoms_all (ts : List Jvm.Cond) (a : Array Jvm.Value) (st : Jvm.State) : (allAtoms ts).before a st = ts.all (fun c => c.before a st) := by
  induction ts with
  | nil => rfl
  | cons c t ih =>
    show (Jvm.Cond.and c (allAtoms t)).before a st = _
    rw [Jvm.Cond.before_and, ih, List.all_cons]
def words1 : List Jvm.Cond := Jvm.Cond.code x code maxLocals ret :: tables_1
/-- a 'code' word, met by the world's own term for the bytes: nothing is compared byte by byte -/
theorem code_word {y : MethodName} {bytes : ByteArray} {mx : Nat} {rt : Option FieldType} {a : Array Value} {s : State} {m : MethodId} {meth : Method} {c : Code} (h1 : s.methodNamed? y = some m) (h2 : s.vm.method? m = some meth) (h3 : meth.code = some c) (h4 : c.code = bytes)
    (h5 : (c.maxLocals == mx && c.exceptionTable.isEmpty && decide (c.maxStack ≤ mostOperands) && decide (meth.sig.returnType = rt) && !meth.locks && decide (parseMethodDescriptor y.desc = some meth.sig)) = true) : (Jvm.Cond.code y bytes mx rt).before a s = true := by
  simp only [Bool.and_eq_true, beq_iff_eq, Bool.not_eq_true', decide_eq_true_eq] at h5
  obtain ⟨⟨⟨⟨⟨g1, g2⟩, g3⟩, g4⟩, g5⟩, g6⟩ := h5
  simp [Cond.before, Cond.holds, Cond.value, h1, h2, h3, h4, g1, g2, g3, g4, g5, g6]
def isCode : Jvm.Cond → Bool
  | .code _ _ _ _ => true
  | _ => false
theorem all_split {L : List Jvm.Cond} {P : Jvm.Cond → Bool} (h1 : L.all (fun c => isCode c || P c) = true) (h2 : ∀ c ∈ L.filter isCode, P c = true) : L.all P = true := by
  refine List.all_eq_true.mpr fun c hc => ?_
  have h := List.all_eq_true.mp h1 c hc
  rcases Bool.eq_false_or_eq_true (isCode c) with hi | hi
  · exact h2 c (List.mem_filter.mpr ⟨hc, hi⟩)
  · simpa [hi] using h
set_option maxRecDepth 65536 in
theorem w_c0 : (Jvm.Cond.code x code maxLocals ret).before args0 about1 = true := code_word (m := ⟨1, 2⟩) (meth := k1m2) (c := k1c2) (by decide +kernel) rfl rfl rfl (by decide +kernel)
set_option maxRecDepth 65536 in
theorem w_c1 : (Jvm.Cond.code ({ cls := "com/example/tsugiki/tsugiki/xml/XmlNames", name := "isNameStartChar", desc := "(I)Z" } : Jvm.MethodName) prog_63_method_3_code (1 : Nat) (Option.some Jvm.ClassFile.FieldType.boolean)).before args0 about1 = true := code_word (m := ⟨2, 1⟩) (meth := k2m1) (c := k2c1) (by decide +kernel) rfl rfl rfl (by decide +kernel)
set_option maxRecDepth 65536 in
theorem w_c2 : (Jvm.Cond.code ({ cls := "com/example/tsugiki/tsugiki/xml/XmlNamesIsNameStartCharPinLaw", name := "ref", desc := "(I)Z" } : Jvm.MethodName) method_2_code (1 : Nat) (Option.some Jvm.ClassFile.FieldType.boolean)).before args0 about1 = true := code_word (m := ⟨1, 1⟩) (meth := k1m1) (c := k1c1) (by decide +kernel) rfl rfl rfl (by decide +kernel)
def codes1 : List Jvm.Cond := [Jvm.Cond.code x code maxLocals ret, Jvm.Cond.code ({ cls := "com/example/tsugiki/tsugiki/xml/XmlNames", name := "isNameStartChar", desc := "(I)Z" } : Jvm.MethodName) prog_63_method_3_code (1 : Nat) (Option.some Jvm.ClassFile.FieldType.boolean), Jvm.Cond.code ({ cls := "com/example/tsugiki/tsugiki/xml/XmlNamesIsNameStartCharPinLaw", name := "ref", desc := "(I)Z" } : Jvm.MethodName) method_2_code (1 : Nat) (Option.some Jvm.ClassFile.FieldType.boolean)]
set_option maxRecDepth 65536 in
theorem codes_eq : words1.filter isCode = codes1 := rfl
theorem w_codes : ∀ c ∈ words1.filter isCode, c.before args0 about1 = true := by
  rw [codes_eq]
  intro c hc
  simp only [codes1, List.mem_cons, List.not_mem_nil, or_false] at hc
  rcases hc with rfl | rfl | rfl
  · exact w_c0
  · exact w_c1
  · exact w_c2
set_option maxRecDepth 65536 in
theorem w_t1 : (words1.take 24).all (fun c => isCode c || c.before args0 about1) = true := by decide +kernel
set_option maxRecDepth 65536 in
theorem w_t2 : (words1.drop 24).all (fun c => isCode c || c.before args0 about1) = true := by decide +kernel
theorem w_tables : (allAtoms (Jvm.Cond.code x code maxLocals ret :: tables_1)).before args0 about1 = true := by
  rw [allAtoms_all]
  show words1.all (fun c => c.before args0 about1) = true
  refine all_split ?_ w_codes
  rw [← List.take_append_drop 24 words1, List.all_append, w_t1, w_t2]
  rfl
set_option maxRecDepth 65536 in
theorem w_case : (Jvm.Cond.and given_1 narrow_1).before args0 about1 = true := by decide +kernel
theorem w_applies : (headSpec (Jvm.Cond.code x code maxLocals ret :: tables_1) room_1).applies x e0.platform about1 = true :=
  (Spec.applies_iff w_frames).mpr ⟨w_running, w_runnable, w_alone, w_named, w_hears, w_ripe, w_room, w_tables⟩
theorem atStart : AtStart classFile x code maxLocals ret World_1 tables_1 room_1 Calls_1 rest_1 Pre_1 launch0 p0 e0 about1 theMethod args0 below0 :=
  ⟨lists_1, trivial, launch0.admits_env _ _ _, launch0.least_env, fairChoices_fair.cas, fairChoices_fair.clock, w_frames, w_args, w_heap, w_applies, trivial, trivial, w_case⟩
end start1
theorem witness_1 : WitnessClaimed_1 := ⟨start1.p0, start1.e0, start1.about1, start1.theMethod, start1.args0, start1.below0, start1.atStart⟩
end Jvm.Pilot.@@N@@
