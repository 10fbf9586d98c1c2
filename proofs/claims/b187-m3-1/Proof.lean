import JvmDerived
import JvmDerived.Pilot.@@N@@Statement
import JvmDerived.Pilot.@@N@@Code
set_option linter.unusedVariables false
set_option linter.unusedSimpArgs false
@@BLOCK:HandJ.lean.txt@@
@@BLOCK:SymMore.lean.txt@@
namespace Jvm.RoadKit
open Sem ClassFile Op Lib Jvm.Stand Jvm.Free Jvm.LawKit
section New
variable {p : Program} {l : Launch} {e : Env} {R : Room} {s : State} {m : MethodId} {args : Array Value} {below : List Frame} {meth : Method} {c : Code} {T : State} {locs : List Loc} {cells slots : Nat}
/-- what a body hands back: the value r, and K of the heap and the places at its end -/
def own_Q (r : Option Value) (K : Heap → List Loc → Prop) (v : Option Value) (h : Heap) (L : List Loc) : Prop := v = r ∧ K h L
/-- nothing is written, nothing is made -/
def own_K0 (h0 : Heap) (h : Heap) (L : List Loc) : Prop := L = [] ∧ h = h0
/-- from F on the run returns r with K -/
def own_Go (p : Program) (e : Env) (below : List Frame) (s : State) (C N : Nat) (r : Option Value) (K : Heap → List Loc → Prop) (F : State) : Prop :=
  ∃ s₂ o, Steps p.tables e below F s₂ ∧ s₂.status = .running ∧ Ended s₂ below o ∧ ∃ v L, o = .returned v ∧ own_Q r K v s₂.heap L ∧ FrameEnd s o s₂ L C N
theorem own_pre {C N : Nat} {r : Option Value} {K : Heap → List Loc → Prop} {F F' : State} (h : ∀ t, Steps p.tables e below F' t → Steps p.tables e below F t) (g : own_Go p e below s C N r K F') : own_Go p e below s C N r K F := by
  obtain ⟨t, o, a, b⟩ := g
  exact ⟨t, o, h t a, b⟩
theorem own_iteI {C N : Nat} {K : Heap → List Loc → Prop} {F : State} {P : Prop} [Decidable P] {a b : Int32} (h1 : P → own_Go p e below s C N (some (.int a)) K F) (h2 : ¬ P → own_Go p e below s C N (some (.int b)) K F) : own_Go p e below s C N (some (.int (if P then a else b))) K F := by
  by_cases q : P
  · rw [if_pos q]; exact h1 q
  · rw [if_neg q]; exact h2 q
theorem own_iteJ {C N : Nat} {K : Heap → List Loc → Prop} {F : State} {P : Prop} [Decidable P] {a b : Int64} (h1 : P → own_Go p e below s C N (some (.long a)) K F) (h2 : ¬ P → own_Go p e below s C N (some (.long b)) K F) : own_Go p e below s C N (some (.long (if P then a else b))) K F := by
  by_cases q : P
  · rw [if_pos q]; exact h1 q
  · rw [if_neg q]; exact h2 q
theorem own_iteR {C N : Nat} {K : Heap → List Loc → Prop} {F : State} {P : Prop} [Decidable P] {a b : Addr} (h1 : P → own_Go p e below s C N (some (.ref a)) K F) (h2 : ¬ P → own_Go p e below s C N (some (.ref b)) K F) : own_Go p e below s C N (some (.ref (if P then a else b))) K F := by
  by_cases q : P
  · rw [if_pos q]; exact h1 q
  · rw [if_neg q]; exact h2 q
theorem own_iteV {C N : Nat} {K : Heap → List Loc → Prop} {F : State} {P : Prop} [Decidable P] {a b : Value} (h1 : P → own_Go p e below s C N (some a) K F) (h2 : ¬ P → own_Go p e below s C N (some b) K F) : own_Go p e below s C N (some (if P then a else b)) K F := by
  by_cases q : P
  · rw [if_pos q]; exact h1 q
  · rw [if_neg q]; exact h2 q
theorem own_ret (X : Stand p l e R s m args below meth c T locs cells slots) (hx : p.tables.exec = Jvm.exec) (hlocks : meth.locks = false) {pc : Nat} {Ls : Array Slot} {w : Value} {t : FieldType} {i : Instr} {rest : List Value} {C N : Nat} {K : Heap → List Loc → Prop} (hret : meth.sig.returnType = some t) (hn : narrow t w = w)
    (hi : (i = .ireturn ∧ (t = .int ∨ t = .boolean ∨ t = .byte ∨ t = .char ∨ t = .short) ∧ ∃ z, w = .int z) ∨ (i = .lreturn ∧ t = .long ∧ ∃ z, w = .long z) ∨ (i = .areturn ∧ t.isReference = true ∧ w.isRef = true))
    (hd : decode c.code pc = .ok (i, 1)) (hK : K T.heap locs) (hC : cells ≤ C) (hN : slots ≤ N) : own_Go p e below s C N (some w) K (T.setTop (mkF m pc Ls (w :: rest))) := by
  obtain ⟨fs, hr, hrun, hended, hW, hsame⟩ := X.leave (v := some w) (fun h => by rw [hret] at h; cases h)
  refine ⟨_, _, retOut X hx hret hn ?_ hd hr, hrun, hended, _, _, rfl, ⟨rfl, hK⟩, ⟨_, rfl⟩, hW, hsame.mono hC hN⟩
  rcases hi with h | h | h
  · exact Or.inl h
  · exact Or.inr (Or.inl h)
  · exact Or.inr (Or.inr (Or.inr (Or.inr h)))
theorem own_retN (X : Stand p l e R s m args below meth c T locs cells slots) (hx : p.tables.exec = Jvm.exec) (hlocks : meth.locks = false) {pc : Nat} {Ls : Array Slot} {z : Int32} {t : FieldType} {rest : List Value} {C N : Nat} {K : Heap → List Loc → Prop} (hret : meth.sig.returnType = some t) (ht : t = .boolean ∨ t = .byte ∨ t = .char ∨ t = .short)
    (hd : decode c.code pc = .ok (.ireturn, 1)) (hK : K T.heap locs) (hC : cells ≤ C) (hN : slots ≤ N) : own_Go p e below s C N (some (.int (nar t z))) K (T.setTop (mkF m pc Ls (.int z :: rest))) := by
  obtain ⟨fs, hr, hrun, hended, hW, hsame⟩ := X.leave (v := some (.int (nar t z))) (fun h => by rw [hret] at h; cases h)
  exact ⟨_, _, retN X hx hret ht hd hr, hrun, hended, _, _, rfl, ⟨rfl, hK⟩, ⟨_, rfl⟩, hW, hsame.mono hC hN⟩
theorem own_retV (X : Stand p l e R s m args below meth c T locs cells slots) (hx : p.tables.exec = Jvm.exec) (hlocks : meth.locks = false) {pc : Nat} {Ls : Array Slot} {C N : Nat} {K : Heap → List Loc → Prop} (hret : meth.sig.returnType = none)
    (hd : decode c.code pc = .ok (.return_, 1)) (hK : K T.heap locs) (hC : cells ≤ C) (hN : slots ≤ N) : own_Go p e below s C N none K (T.setTop (mkF m pc Ls [])) := by
  obtain ⟨fs, hr, hrun, hended, hW, hsame⟩ := X.leave (v := none) (fun _ => rfl)
  exact ⟨_, _, X.returnOut hx hret hd hr, hrun, hended, _, _, rfl, ⟨rfl, hK⟩, ⟨_, rfl⟩, hW, hsame.mono hC hN⟩
theorem own_lremM {g : JFrame} {target : State} (X : Stand p l e R s m args below meth c T locs cells slots) (hx : p.tables.exec = Jvm.exec) (hg : g.method = m) {x y : Int64} {rest : List Value} (hd : decode c.code g.pc = .ok (.lrem, 1)) (hs : g.stack = .long y :: .long x :: rest) (hy : y ≠ 0)
    (hr : Steps p.tables e below (T.setTop { g with pc := g.pc + 1, stack := .long (x % y) :: rest }) target) : Steps p.tables e below (T.setTop g) target :=
  XS.lrem X.here hx hg hd hs hy (by rw [lrem_mod]; exact hr)
theorem own_cat {v : Value} (h : v.isRef = true) : v.category = 1 := by rcases ref_cases h with rfl | ⟨a, rfl⟩ <;> rfl
theorem own_nar (z : Int32) : nar .boolean z = z &&& 1 := rfl
end New
end Jvm.RoadKit
namespace Jvm.RoadKit
open Sem ClassFile Op Lib Jvm.Stand Jvm.Free Jvm.LawKit
section New2
variable {p : Program} {l : Launch} {e : Env} {R : Room} {s : State} {m : MethodId} {args : Array Value} {below : List Frame} {meth : Method} {c : Code} {T : State} {locs : List Loc} {cells slots : Nat}
theorem own_iteT {α : Type} {C N : Nat} (R : α → Option Value) (K : α → Heap → List Loc → Prop) {F : State} {P : Prop} [Decidable P] {a b : α} (h1 : P → own_Go p e below s C N (R a) (K a) F) (h2 : ¬ P → own_Go p e below s C N (R b) (K b) F) : own_Go p e below s C N (R (if P then a else b)) (K (if P then a else b)) F := by
  by_cases q : P
  · rw [if_pos q]; exact h1 q
  · rw [if_neg q]; exact h2 q
theorem own_staKeep {Z : State} {h h' : Heap} {C n d : String} {w : Value} {ws : List Addr} (F : Sta Z h C n d w) (K : Keep h h' ws) (q : ∀ x ∈ ws, ∀ c : Cell, h[x]? = some c → c.vm.isStatics = false) : Sta Z h' C n d w := by
  obtain ⟨cf, i, k, f, st, cell, h1, h2, h3, h4, h5, h6, h7⟩ := F
  exact ⟨cf, i, k, f, st, cell, h1, h2, h3, h4, K.2.1 _ _ h5 (fun hm => by have := q st hm cell h5; rw [h6] at this; cases this), h6, h7⟩
theorem own_nost1 {Z : State} {h : Heap} {a : Addr} {C : String} (E : Exa Z h a C) : ∀ x ∈ [a], ∀ c : Cell, h[x]? = some c → c.vm.isStatics = false := fun x hx c hc => by
  cases List.mem_singleton.mp hx; exact E.nostat c hc
theorem own_locs (X : Stand p l e R s m args below meth c T (locs ++ []) cells slots) : Stand p l e R s m args below meth c T locs cells slots := by rw [List.append_nil] at X; exact X
theorem own_KF {n0 : Nat} {h : Heap} {L : List Loc} (N : Fr n0 L) : (fun (_ : Heap) (L : List Loc) => Fr n0 L) h L := N
end New2
end Jvm.RoadKit
namespace Jvm.RoadKit
open Sem ClassFile Op Lib Jvm.Stand Jvm.Free Jvm.LawKit
section New3
variable {p : Program} {l : Launch} {e : Env} {R : Room} {s : State} {m : MethodId} {args : Array Value} {below : List Frame} {meth : Method} {c : Code} {T : State} {locs : List Loc} {cells slots : Nat} {Z : State} {h h' : Heap} {a b : Addr} {z j : Int32} {ty : FieldType}
/-- an int[] of the length z that holds l -/
def own_Iv (Z : State) (h : Heap) (a : Addr) (z : Int32) (l : List Int32) : Prop := ∃ k, Arv Z h a k .int z (l.map Value.int) (.int 0)
/-- an array of the length z, whatever it holds -/
def own_Ar (Z : State) (h : Heap) (a : Addr) (ty : FieldType) (z : Int32) : Prop := ∃ k vs, Arv Z h a k ty z vs (.int 0) ∧ vs.length = z.toNatClampNeg
theorem own_Iv.ext {l : List Int32} (F : own_Iv Z h a z l) (E : Ext h h') : own_Iv Z h' a z l := by obtain ⟨k, A⟩ := F; exact ⟨k, A.ext E⟩
theorem own_Iv.other {l : List Int32} {sl : Nat} {v : Value} (F : own_Iv Z h a z l) (W : Wr h h' b sl v) (q : a ≠ b) : own_Iv Z h' a z l := by obtain ⟨k, A⟩ := F; exact ⟨k, A.other W q⟩
theorem own_Iv.keep {l : List Int32} {ws : List Addr} (F : own_Iv Z h a z l) (K : Keep h h' ws) (q : a ∉ ws) : own_Iv Z h' a z l := by obtain ⟨k, A⟩ := F; exact ⟨k, A.keep K q⟩
theorem own_Iv.lt {l : List Int32} (F : own_Iv Z h a z l) : a < h.size := by obtain ⟨k, A⟩ := F; exact A.lt
theorem own_Ar.ext (F : own_Ar Z h a ty z) (E : Ext h h') : own_Ar Z h' a ty z := by obtain ⟨k, vs, A, q⟩ := F; exact ⟨k, vs, A.ext E, q⟩
theorem own_Ar.other {sl : Nat} {v : Value} (F : own_Ar Z h a ty z) (W : Wr h h' b sl v) (q : a ≠ b) : own_Ar Z h' a ty z := by obtain ⟨k, vs, A, r⟩ := F; exact ⟨k, vs, A.other W q, r⟩
theorem own_Ar.keep {ws : List Addr} (F : own_Ar Z h a ty z) (K : Keep h h' ws) (q : a ∉ ws) : own_Ar Z h' a ty z := by obtain ⟨k, vs, A, r⟩ := F; exact ⟨k, vs, A.keep K q, r⟩
theorem own_Ar.lt (F : own_Ar Z h a ty z) : a < h.size := by obtain ⟨k, vs, A, q⟩ := F; exact A.lt
theorem own_Iv.ar {l : List Int32} (F : own_Iv Z h a z l) (q : l.length = z.toNatClampNeg) : own_Ar Z h a .int z := by obtain ⟨k, A⟩ := F; exact ⟨k, _, A, by rw [List.length_map]; exact q⟩
theorem own_inZ (h1 : ¬ j < 0) (h2 : j < z) : j.toNatClampNeg < z.toNatClampNeg := by
  rw [Int32.lt_iff_toInt_lt] at h1 h2
  have e0 : (0 : Int32).toInt = 0 := rfl
  simp only [Int32.toNatClampNeg]; omega
theorem own_Ar.set {c : Cell} {k : ClassId} {vs : List Value} {v : Value} (A : Arr Z h a c ty) (q1 : c.cls = k) (S : c.slots.size = z.toNatClampNeg) (q3 : ¬ z < 0) (H : Has c vs (.int 0)) (G : ∀ i, i < c.slots.size → fits ty (vs.getD i (.int 0)) = true) (hl : vs.length = z.toNatClampNeg) (hv : fits ty v = true) (W : Wr h h' a j.toNatClampNeg v) (h1 : ¬ j < 0) (h2 : j < z) : own_Ar Z h' a ty z :=
  ⟨k, _, Arv.set A q1 S q3 H G hv W _ rfl (by rw [hl]; exact own_inZ h1 h2), by rw [List.length_set]; exact hl⟩
theorem own_arNew {k : ClassId} (A : Arr Z h a (newA k ty z) ty) (q : ¬ z < 0) (hd : defaultValue ty = .int 0) : own_Ar Z h a ty z := by
  have := Arv.new A q
  rw [hd] at this
  exact ⟨k, _, this.pad (pad_rep [] (.int 0) z.toNatClampNeg), by simp⟩
theorem own_cp {vd us : List Value} {dp nn : Int32} {k : ClassId} (A : Arv Z h a k ty z (vd.take dp.toNatClampNeg ++ us ++ vd.drop (dp.toNatClampNeg + nn.toNatClampNeg)) (.int 0)) (hl : vd.length = z.toNatClampNeg) (hu : us.length = nn.toNatClampNeg) (h5 : dp.toNatClampNeg + nn.toNatClampNeg ≤ z.toNatClampNeg) : own_Ar Z h a ty z :=
  ⟨k, _, A, by simp only [List.length_append, List.length_take, List.length_drop, hl, hu]; omega⟩
/-- what lies below b is kept -/
def own_Low (b : Addr) (h h' : Heap) : Prop := ∃ ws, Keep h h' ws ∧ ∀ x ∈ ws, b ≤ x
theorem own_Low.size {b : Addr} (K : own_Low b h h') : h.size ≤ h'.size := by obtain ⟨ws, K, -⟩ := K; exact K.1
theorem own_Iv.low {l : List Int32} (F : own_Iv Z h a z l) (K : own_Low b h h') (q : a < b) : own_Iv Z h' a z l := by
  obtain ⟨ws, K, hb⟩ := K; exact F.keep K (fun hm => absurd (hb a hm) (Nat.not_le_of_lt q))
theorem own_neL {x : Addr} (h1 : a < b) (h2 : b < x) : a ≠ x := Nat.ne_of_lt (Nat.lt_trans h1 h2)
theorem own_met {l : Launch} {y : MethodName} {S : Spec} {P : Array Value → State → Prop} {r : Option Value} {K K' : Heap → List Loc → Prop} {C N : Nat} (h : MetFree l y S P (fun _ _ _ _ _ => True) (fun _ U o U' => ∃ v L, o = .returned v ∧ own_Q r K v U'.heap L ∧ FrameEnd U o U' L C N)) (hK : ∀ hp L, K hp L → K' hp L) : MetFree l y S P (fun _ _ _ _ _ => True) (fun _ U o U' => ∃ v L, o = .returned v ∧ own_Q r K' v U'.heap L ∧ FrameEnd U o U' L C N) := by
  intro p e ha hc hk s m args below hf happ hP hT
  obtain ⟨n, o, h1, h2, h3, v, L, rfl, ⟨rfl, hq⟩, hF⟩ := h p e ha hc hk s m args below hf happ hP hT
  exact ⟨n, _, h1, h2, h3, _, L, rfl, ⟨rfl, hK _ _ hq⟩, hF⟩
/-- an int[] of the width w (1 or 4) that holds these words -/
def own_G (Z : State) (h : Heap) (a : Addr) (w l0 l1 l2 l3 : Int32) : Prop := ∃ z l, own_Iv Z h a z l ∧ (w = 1 → z = 1 ∧ l = [l0]) ∧ (w = 4 → z = 4 ∧ l = [l0, l1, l2, l3])
section G
variable {w l0 l1 l2 l3 : Int32}
theorem own_G.ext (F : own_G Z h a w l0 l1 l2 l3) (E : Ext h h') : own_G Z h' a w l0 l1 l2 l3 := by obtain ⟨z, l, A, q⟩ := F; exact ⟨z, l, A.ext E, q⟩
theorem own_G.other {sl : Nat} {v : Value} (F : own_G Z h a w l0 l1 l2 l3) (W : Wr h h' b sl v) (q : a ≠ b) : own_G Z h' a w l0 l1 l2 l3 := by obtain ⟨z, l, A, r⟩ := F; exact ⟨z, l, A.other W q, r⟩
theorem own_G.keep {ws : List Addr} (F : own_G Z h a w l0 l1 l2 l3) (K : Keep h h' ws) (q : a ∉ ws) : own_G Z h' a w l0 l1 l2 l3 := by obtain ⟨z, l, A, r⟩ := F; exact ⟨z, l, A.keep K q, r⟩
theorem own_G.low (F : own_G Z h a w l0 l1 l2 l3) (K : own_Low b h h') (q : a < b) : own_G Z h' a w l0 l1 l2 l3 := by obtain ⟨z, l, A, r⟩ := F; exact ⟨z, l, A.low K q, r⟩
theorem own_G.lt (F : own_G Z h a w l0 l1 l2 l3) : a < h.size := by obtain ⟨z, l, A, r⟩ := F; exact A.lt
theorem own_G.iv1 (F : own_G Z h a 1 l0 l1 l2 l3) : own_Iv Z h a 1 [l0] := by obtain ⟨z, l, A, r, -⟩ := F; obtain ⟨rfl, rfl⟩ := r rfl; exact A
theorem own_G.iv4 (F : own_G Z h a 4 l0 l1 l2 l3) : own_Iv Z h a 4 [l0, l1, l2, l3] := by obtain ⟨z, l, A, -, r⟩ := F; obtain ⟨rfl, rfl⟩ := r rfl; exact A
theorem own_G.of1 (A : own_Iv Z h a 1 [l0]) : own_G Z h a 1 l0 l1 l2 l3 := ⟨_, _, A, fun _ => ⟨rfl, rfl⟩, fun h => absurd h (by decide)⟩
theorem own_G.of4 (A : own_Iv Z h a 4 [l0, l1, l2, l3]) : own_G Z h a 4 l0 l1 l2 l3 := ⟨_, _, A, fun h => absurd h (by decide), fun _ => ⟨rfl, rfl⟩⟩
theorem own_G.ar (F : own_G Z h a w l0 l1 l2 l3) (HD : w = 1 ∨ w = 4) : own_Ar Z h a .int w := by
  rcases HD with rfl | rfl
  · exact F.iv1.ar rfl
  · exact F.iv4.ar rfl
theorem own_gNew {k : ClassId} (A : Arr Z h a (newA k .int w) .int) (HD : w = 1 ∨ w = 4) : own_G Z h a w 0 0 0 0 := by
  rcases HD with rfl | rfl
  · exact own_G.of1 ⟨_, (Arv.new A (by decide)).pad (pad_rep [] (.int 0) 1)⟩
  · exact own_G.of4 ⟨_, (Arv.new A (by decide)).pad (pad_rep [] (.int 0) 4)⟩
end G
theorem own_ArZ (F : own_Ar Z h a ty 0) : own_Ar Z h a ty (0 * z) := by rw [show (0 : Int32) * z = 0 from Int32.zero_mul]; exact F
end New3
end Jvm.RoadKit
namespace Jvm.RoadKit
open Sem ClassFile Op Lib Jvm.Stand Jvm.Free Jvm.LawKit
section New5
variable {Z : State} {h h' : Heap} {a b : Addr} {z : Int32} {l : List Int32} {ty : FieldType} {q : List (Int32 × Int32)}
/-- an array of the length z that holds l -/
def own_Pv (Z : State) (h : Heap) (a : Addr) (z : Int32) (l : List Int32) (ty : FieldType) : Prop := ∃ k, Arv Z h a k ty z (l.map Value.int) (.int 0)
theorem own_Pv.ext (F : own_Pv Z h a z l ty) (E : Ext h h') : own_Pv Z h' a z l ty := by obtain ⟨k, A⟩ := F; exact ⟨k, A.ext E⟩
theorem own_Pv.other {sl : Nat} {v : Value} (F : own_Pv Z h a z l ty) (W : Wr h h' b sl v) (q : a ≠ b) : own_Pv Z h' a z l ty := by obtain ⟨k, A⟩ := F; exact ⟨k, A.other W q⟩
theorem own_Pv.keep {ws : List Addr} (F : own_Pv Z h a z l ty) (K : Keep h h' ws) (q : a ∉ ws) : own_Pv Z h' a z l ty := by obtain ⟨k, A⟩ := F; exact ⟨k, A.keep K q⟩
theorem own_Pv.lt (F : own_Pv Z h a z l ty) : a < h.size := by obtain ⟨k, A⟩ := F; exact A.lt
/-- a byte[] of the length z, some of whose elements are known -/
def own_Be (Z : State) (h : Heap) (a : Addr) (z : Int32) (q : List (Int32 × Int32)) : Prop := ∃ k vs, Arv Z h a k .byte z vs (.int 0) ∧ ∀ x ∈ q, vs.getD x.1.toNatClampNeg (.int 0) = .int x.2
theorem own_Pv.be (F : own_Pv Z h a z l .byte) (H : ∀ x ∈ q, (l.map Value.int).getD x.1.toNatClampNeg (.int 0) = .int x.2) : own_Be Z h a z q := by obtain ⟨k, A⟩ := F; exact ⟨k, _, A, H⟩
theorem own_Be.nil (F : own_Be Z h a z q) : own_Be Z h a z [] := by obtain ⟨k, vs, A, -⟩ := F; exact ⟨k, vs, A, fun _ k => nomatch k⟩
theorem own_metR {l : Launch} {y : MethodName} {S : Spec} {P : Array Value → State → Prop} {r r' : Option Value} {K K' : Heap → List Loc → Prop} {C N : Nat} (h : MetFree l y S P (fun _ _ _ _ _ => True) (fun _ U o U' => ∃ v L, o = .returned v ∧ own_Q r K v U'.heap L ∧ FrameEnd U o U' L C N)) (hr : r = r') (hK : ∀ hp L, K hp L → K' hp L) : MetFree l y S P (fun _ _ _ _ _ => True) (fun _ U o U' => ∃ v L, o = .returned v ∧ own_Q r' K' v U'.heap L ∧ FrameEnd U o U' L C N) := by subst hr; exact own_met h hK
section E
variable {p : Program} {l : Launch} {e : Env} {R : Room} {s : State} {m : MethodId} {args : Array Value} {below : List Frame} {meth : Method} {c : Code} {T : State} {locs : List Loc} {cells slots : Nat}
/-- a body hands back an object, K of it -/
def own_QE (K : Heap → List Loc → Addr → Prop) (v : Option Value) (h : Heap) (L : List Loc) : Prop := ∃ rb, v = some (.ref rb) ∧ K h L rb
def own_GoE (p : Program) (e : Env) (below : List Frame) (s : State) (C N : Nat) (K : Heap → List Loc → Addr → Prop) (F : State) : Prop :=
  ∃ s₂ o, Steps p.tables e below F s₂ ∧ s₂.status = .running ∧ Ended s₂ below o ∧ ∃ v L, o = .returned v ∧ own_QE K v s₂.heap L ∧ FrameEnd s o s₂ L C N
theorem own_preE {C N : Nat} {K : Heap → List Loc → Addr → Prop} {F F' : State} (h : ∀ t, Steps p.tables e below F' t → Steps p.tables e below F t) (g : own_GoE p e below s C N K F') : own_GoE p e below s C N K F := by
  obtain ⟨t, o, a, b⟩ := g
  exact ⟨t, o, h t a, b⟩
theorem own_retE (X : Stand p l e R s m args below meth c T locs cells slots) (hx : p.tables.exec = Jvm.exec) (hlocks : meth.locks = false) {pc : Nat} {Ls : Array Slot} {b : Addr} {t : FieldType} {rest : List Value} {C N : Nat} {K : Heap → List Loc → Addr → Prop} (hret : meth.sig.returnType = some t) (ht : t.isReference = true)
    (hd : decode c.code pc = .ok (.areturn, 1)) (hK : K T.heap locs b) (hC : cells ≤ C) (hN : slots ≤ N) : own_GoE p e below s C N K (T.setTop (mkF m pc Ls (.ref b :: rest))) := by
  have hn : narrow t (.ref b) = .ref b := by cases t <;> first | rfl | exact absurd ht (by decide)
  obtain ⟨s₂, o, h1, h2, h3, v, L, h4, ⟨h5, h6⟩, h7⟩ := own_ret (K := fun h L => K h L b) X hx hlocks hret hn (Or.inr (Or.inr ⟨rfl, ht, rfl⟩)) hd hK hC hN (Ls := Ls) (rest := rest)
  exact ⟨s₂, o, h1, h2, h3, v, L, h4, ⟨b, h5, h6⟩, h7⟩
theorem own_metE {l : Launch} {y : MethodName} {S : Spec} {P : Array Value → State → Prop} {K K' : Heap → List Loc → Addr → Prop} {C N : Nat} (h : MetFree l y S P (fun _ _ _ _ _ => True) (fun _ U o U' => ∃ v L, o = .returned v ∧ own_QE K v U'.heap L ∧ FrameEnd U o U' L C N)) (hK : ∀ hp L b, K hp L b → K' hp L b) : MetFree l y S P (fun _ _ _ _ _ => True) (fun _ U o U' => ∃ v L, o = .returned v ∧ own_QE K' v U'.heap L ∧ FrameEnd U o U' L C N) := by
  intro p e ha hc hk s m args below hf happ hP hT
  obtain ⟨n, o, h1, h2, h3, v, L, rfl, ⟨b, rfl, hq⟩, hF⟩ := h p e ha hc hk s m args below hf happ hP hT
  exact ⟨n, _, h1, h2, h3, _, L, rfl, ⟨b, rfl, hK _ _ _ hq⟩, hF⟩
end E
/-- the JDK's statics at hand -/
def own_J (Z : State) (h : Heap) : Prop := ∃ (cs : Int32) (sf : Value), Sta Z h "java/lang/String" "COMPACT_STRINGS" "Z" (.int cs) ∧ Sta Z h "jdk/internal/util/Preconditions" "SIOOBE_FORMATTER" "Ljava/util/function/BiFunction;" sf ∧ Sta Z h "java/lang/StringUTF16" "$assertionsDisabled" "Z" (.int 1) ∧ Sta Z h "java/lang/StringUTF16" "HI_BYTE_SHIFT" "I" (.int 0) ∧ Sta Z h "java/lang/StringUTF16" "LO_BYTE_SHIFT" "I" (.int 8) ∧ cs ≠ 0 ∧ sf.isRef = true
theorem own_J.ext (F : own_J Z h) (E : Ext h h') : own_J Z h' := by obtain ⟨c, f, a1, a2, a3, a4, a5, r⟩ := F; exact ⟨c, f, a1.ext E, a2.ext E, a3.ext E, a4.ext E, a5.ext E, r⟩
theorem own_J.wr {sl : Nat} {v : Value} (F : own_J Z h) (W : Wr h h' b sl v) : own_J Z h' := by obtain ⟨c, f, a1, a2, a3, a4, a5, r⟩ := F; exact ⟨c, f, a1.wr W, a2.wr W, a3.wr W, a4.wr W, a5.wr W, r⟩
theorem own_J.keep (F : own_J Z h) (K : Keep h h' []) : own_J Z h' := by obtain ⟨c, f, a1, a2, a3, a4, a5, r⟩ := F; exact ⟨c, f, own_staKeep a1 K (by simp), own_staKeep a2 K (by simp), own_staKeep a3 K (by simp), own_staKeep a4 K (by simp), own_staKeep a5 K (by simp), r⟩
end New5
end Jvm.RoadKit
namespace Jvm.RoadKit
open Sem ClassFile Op Lib Bundle Jvm.Stand Jvm.Free Jvm.LawKit
section New6
variable {p : Program} {l : Launch} {e : Env} {R : Room} {s : State} {m : MethodId} {args : Array Value} {below : List Frame} {meth : Method} {c : Code} {T : State} {locs : List Loc} {cells slots : Nat} {vm0 : Vm} {k0 : Nat} {Z : State} {h : Heap} {a0 : Array Value} {EL : List (String × Nat)}
/-- from F on the run returns r with K; meanwhile it may have interned -/
def own_GoW (p : Program) (e : Env) (below : List Frame) (s : State) (C N : Nat) (r : Option Value) (K : Heap → List Loc → Prop) (F : State) : Prop :=
  ∃ s₂ o, Steps p.tables e below F s₂ ∧ s₂.status = .running ∧ Ended s₂ below o ∧ ∃ v L, o = .returned v ∧ own_Q r K v s₂.heap L ∧ ReturnedEndW s o s₂ L C N
theorem own_preW {C N : Nat} {r : Option Value} {K : Heap → List Loc → Prop} {F F' : State} (h : ∀ t, Steps p.tables e below F' t → Steps p.tables e below F t) (g : own_GoW p e below s C N r K F') : own_GoW p e below s C N r K F := by
  obtain ⟨t, o, a, b⟩ := g
  exact ⟨t, o, h t a, b⟩
theorem own_iteTW {α : Type} {C N : Nat} (R : α → Option Value) (K : α → Heap → List Loc → Prop) {F : State} {P : Prop} [Decidable P] {a b : α} (h1 : P → own_GoW p e below s C N (R a) (K a) F) (h2 : ¬ P → own_GoW p e below s C N (R b) (K b) F) : own_GoW p e below s C N (R (if P then a else b)) (K (if P then a else b)) F := by
  by_cases q : P
  · rw [if_pos q]; exact h1 q
  · rw [if_neg q]; exact h2 q
theorem own_retW (hS : s.Since vm0 k0) (hk : k0 ≤ T.heap.size) (X : Stand p l e R (s.setVm vm0) m args below meth c T locs cells slots) (hx : p.tables.exec = Jvm.exec) (hlocks : meth.locks = false) {pc : Nat} {Ls : Array Slot} {w : Value} {t : FieldType} {i : Instr} {rest : List Value} {C N : Nat} {K : Heap → List Loc → Prop} (hret : meth.sig.returnType = some t) (hn : narrow t w = w)
    (hi : (i = .ireturn ∧ (t = .int ∨ t = .boolean ∨ t = .byte ∨ t = .char ∨ t = .short) ∧ ∃ z, w = .int z) ∨ (i = .lreturn ∧ t = .long ∧ ∃ z, w = .long z) ∨ (i = .areturn ∧ t.isReference = true ∧ w.isRef = true))
    (hd : decode c.code pc = .ok (i, 1)) (hK : K T.heap locs) (hC : cells ≤ C) (hN : slots ≤ N) : own_GoW p e below s C N (some w) K (T.setTop (mkF m pc Ls (w :: rest))) := by
  obtain ⟨fs, hr, hrun, hended, hW⟩ := X.leaveW hS hk (v := some w) (fun h => by rw [hret] at h; cases h)
  refine ⟨_, _, retOut X hx hret hn ?_ hd hr, hrun, hended, _, _, rfl, ⟨rfl, hK⟩, hW.1, hW.2.1, hW.2.2.1, hW.2.2.2.mono hC hN⟩
  rcases hi with h | h | h
  · exact Or.inl h
  · exact Or.inr (Or.inl h)
  · exact Or.inr (Or.inr (Or.inr (Or.inr h)))
theorem own_retVW (hS : s.Since vm0 k0) (hk : k0 ≤ T.heap.size) (X : Stand p l e R (s.setVm vm0) m args below meth c T locs cells slots) (hx : p.tables.exec = Jvm.exec) (hlocks : meth.locks = false) {pc : Nat} {Ls : Array Slot} {C N : Nat} {K : Heap → List Loc → Prop} (hret : meth.sig.returnType = none)
    (hd : decode c.code pc = .ok (.return_, 1)) (hK : K T.heap locs) (hC : cells ≤ C) (hN : slots ≤ N) : own_GoW p e below s C N none K (T.setTop (mkF m pc Ls [])) := by
  obtain ⟨fs, hr, hrun, hended, hW⟩ := X.leaveW hS hk (v := none) (fun _ => rfl)
  exact ⟨_, _, X.returnOut hx hret hd hr, hrun, hended, _, _, rfl, ⟨rfl, hK⟩, hW.1, hW.2.1, hW.2.2.1, hW.2.2.2.mono hC hN⟩
/-- a callee that may intern, under the held constants -/
theorem own_backS {y : MethodName} {bytes : ByteArray} {maxL : Nat} {ret : Option FieldType} {rm : Room} {len W : Nat} {as' : Array Value} {Q : Option Value → Heap → List Loc → Prop}
    (hM : MetFree l y (head1 [Cond.code y bytes maxL ret] rm) (fun a U => a = as' ∧ Z.Warmed39 U.vm ∧ U.heap = h ∧ CHv Z EL U.vm h) (fun _ _ _ _ _ => True) (fun _ U o U' => ∃ v L, o = .returned v ∧ Q v U'.heap L ∧ ReturnedEndW U o U' L rm.cells rm.slots))
    (hZ : Z.Warmed39 vm0) (wc : (Cond.code y bytes maxL ret).before a0 Z = true) (wz : (Cond.initialized y.cls).before a0 Z = true) (hf : rm.frames + 1 ≤ R.frames) (hl : W + (maxL + 11) + rm.locals ≤ R.locals) (hEL : EW Z a0 EL) (H : CHv Z EL vm0 h) :
    BackS l R p e below (s.setVm vm0) args y len W (fun A a => a = as' ∧ A.U.heap = h ∧ A.cells + rm.cells ≤ R.cells ∧ A.slots + rm.slots ≤ R.slots)
      (fun A _ v B => ∃ L, Q v B.U.heap L ∧ B.locs = A.locs ++ L ∧ B.cells = A.cells + rm.cells ∧ B.slots = A.slots + rm.slots) := by
  have up : ∀ {m : MethodId} {meth : Method} {c : Code} {A : Pt}, Stand p l e R (s.setVm vm0) m args below meth c A.U A.locs A.cells A.slots → Z.Warmed39 A.U.vm := fun Y => wtrans (s := s.setVm vm0) hZ Y.warmed
  refine BackS.of_freeW (bytes := bytes) (maxL := maxL) (ret := ret) (E := fun _ _ o t L k n => (k, n) = (rm.cells, rm.slots) ∧ ∃ v, o = .returned v ∧ Q v t.heap L) hM hf hl ?_ ?_ ?_ ?_ ?_
  · intro m meth c A a Y hp
    have w := mv (args := a) (s := A.U) (up Y) wc
    have e : (Cond.and (Cond.code y bytes maxL ret) .tt).before a A.U = true := by rw [Cond.before_and, w]; rfl
    exact ⟨e, w, mv (up Y) wz, hp.2.2.1, hp.2.2.2⟩
  · intro m meth c A a g mk Y hp
    exact ⟨hp.1, up Y, hp.2.1, (CHv.at Y hZ hEL H).1⟩
  · intros
    trivial
  · rintro a first o t ⟨v, L, h1, h2, h3⟩
    exact ⟨L, _, _, h3, rfl, v, h1, h2⟩
  · rintro m meth c A a g mk v t L k n Y hp - - ⟨e1, w, e2, e3⟩
    cases e1
    cases e2
    exact ⟨L, e3, rfl, rfl, rfl⟩
end New6
end Jvm.RoadKit
namespace Jvm.Pilot.@@N@@
open Jvm Jvm.ClassFile Sem Op Lib Jvm.Free Jvm.Stand Jvm.LawKit Jvm.RoadKit Bundle Jvm.Pilot.@@N@@.Jvm.D
abbrev cS : String := "java/lang/String"
abbrev cU : String := "java/lang/StringUTF16"
abbrev cL1 : String := "java/lang/StringLatin1"
abbrev cL : String := "com/example/vaultwright/vaultwright/http/RequestHeadIsTokenPinLaw"
abbrev cR : String := "com/example/vaultwright/vaultwright/http/RequestHead"
abbrev lv (x : Int64) : Jvm.Slot := .val (.long x)
abbrev se : Jvm.Slot := .second
abbrev Qz : Room := { frames := 0, cells := 0, slots := 0, locals := 0 }
abbrev De (c : ByteArray) (i : Nat) (o : Instr) (n : Nat) : Prop := decode c i = .ok (o, n)
abbrev uu : Jvm.Slot := .unset
abbrev HW (aw : Array Value) (Z : State) : Prop := ∀ d ∈ tables_1, d.before aw Z = true
theorem ow {aw : Array Value} {Z : State} (hw : HW aw Z) {d : Jvm.Cond} (i : Nat) (h : tables_1[i]? = some d) : d.before aw Z = true := hw d (List.mem_of_getElem? h)
theorem op {p : Program} {e : Env} {below : List Frame} {s : State} {C N : Nat} {r : Option Value} {K : Heap → List Loc → Prop} {F : State} (T' : State) (g' : JFrame) (h : ∀ t, Steps p.tables e below (T'.setTop g') t → Steps p.tables e below F t) (g : own_Go p e below s C N r K (T'.setTop g')) : own_Go p e below s C N r K F := own_pre h g
/-- a field's place, with its type -/
def LaT (Z : State) (aw : Array Value) (C O n d : String) : Prop := Laid Z aw C O n d ∧ ∃ t, parseFieldDescriptor d = some t
abbrev NS (Z : State) (O n d O' n' d' : String) : Prop := Jvm.RoadKit.slotOf Z O n d ≠ Jvm.RoadKit.slotOf Z O' n' d'
theorem own_sn {Z : State} {aw : Array Value} {C O n d O' n' d' : String} (L : LaT Z aw C O n d) (L' : LaT Z aw C O' n' d') (hn : n ≠ n') : Jvm.RoadKit.slotOf Z O n d ≠ Jvm.RoadKit.slotOf Z O' n' d' := by
  obtain ⟨L, t, q⟩ := L; obtain ⟨L', t', q'⟩ := L'; exact slot_ne L L' hn q q'
theorem opE {p : Program} {e : Env} {below : List Frame} {s : State} {C N : Nat} {K : Heap → List Loc → Addr → Prop} {F : State} (T' : State) (g' : JFrame) (h : ∀ t, Steps p.tables e below (T'.setTop g') t → Steps p.tables e below F t) (g : own_GoE p e below s C N K (T'.setTop g')) : own_GoE p e below s C N K F := own_preE h g
theorem opW {p : Program} {e : Env} {below : List Frame} {s : State} {C N : Nat} {r : Option Value} {K : Heap → List Loc → Prop} {F : State} (T' : State) (g' : JFrame) (h : ∀ t, Steps p.tables e below (T'.setTop g') t → Steps p.tables e below F t) (g : own_GoW p e below s C N r K (T'.setTop g')) : own_GoW p e below s C N r K F := own_preW h g
variable {p : Program} {l : Launch} {e : Env} {s : State} {m : MethodId} {below : List Frame} {meth : Method} {c : Code} {s₁ : State} {ws : List Jvm.Cond} {Z : State} {aw : Array Value}
abbrev Gd : ByteArray := prog_34_method_4_code
abbrev Gg : ByteArray := method_2_code
abbrev Gi : ByteArray := jdk_52_method_16_code
abbrev Gj : ByteArray := jdk_52_method_21_code
abbrev Gk : ByteArray := jdk_42_method_149_code
abbrev Gm : ByteArray := jdk_52_method_4_code
abbrev Gq : ByteArray := jdk_42_method_3_code
abbrev Gs : ByteArray := jdk_43_method_22_code
abbrev Gt : ByteArray := jdk_52_method_14_code
abbrev Gw : ByteArray := jdk_52_method_5_code
abbrev Gy : ByteArray := jdk_42_method_56_code
abbrev Gz : ByteArray := jdk_43_method_23_code
abbrev H0 : ByteArray := jdk_52_method_3_code
abbrev Hb : ByteArray := jdk_42_method_154_code
abbrev Hc : ByteArray := jdk_42_method_55_code
abbrev Hd : ByteArray := jdk_42_method_80_code
abbrev He : ByteArray := jdk_43_method_4_code
abbrev Hf : ByteArray := jdk_43_method_2_code
abbrev Hg : ByteArray := jdk_41_method_11_code
abbrev Hh : ByteArray := jdk_42_method_155_code
abbrev Hi : ByteArray := jdk_42_method_54_code
abbrev Hj : ByteArray := jdk_52_method_2_code
abbrev Ho : ByteArray := jdk_52_method_15_code
abbrev Hp : ByteArray := jdk_29_method_65_code
abbrev Hq : ByteArray := jdk_29_method_69_code
abbrev Hr : ByteArray := jdk_52_method_83_code
abbrev Hs : ByteArray := jdk_42_method_152_code
abbrev Ht : ByteArray := jdk_52_method_6_code
abbrev Hu : ByteArray := jdk_52_method_91_code
abbrev Hv : ByteArray := jdk_42_method_79_code
/-! body 21 -/
theorem d21_0 : De Hp 0 (.iload_n 0) 1 := by decide +kernel
theorem d21_1 : De Hp 1 (.iload_n 1) 1 := by decide +kernel
theorem d21_2 : De Hp 2 (.if_icmp .lt 7) 3 := by decide +kernel
theorem d21_5 : De Hp 5 (.iload_n 0) 1 := by decide +kernel
theorem d21_6 : De Hp 6 (.goto 4) 3 := by decide +kernel
theorem d21_9 : De Hp 9 (.iload_n 1) 1 := by decide +kernel
theorem d21_10 : De Hp 10 (.ireturn) 1 := by decide +kernel
def f21_0 (p0 p1 : Int32) : Int32 := (if p0 < p1 then p1 else p0)
set_option maxRecDepth 65536 in
set_option maxHeartbeats 40000000 in
theorem g21_0 (hw : HW aw Z) {h0 : Heap} (p0 p1 : Int32)
    (Bd : BodyLoose p l (⟨"java/lang/Math", "max", "(II)I"⟩ : MethodName) (head1 (Jvm.Cond.code (⟨"java/lang/Math", "max", "(II)I"⟩ : MethodName) Hp 2 (some .int) :: ws) Qz) Hp 2 (some .int) e s m #[(.int p0), (.int p1)] below meth c s₁) (hml : c.maxLocals = 2) (hZ : Z.Warmed39 s.vm) (T0 : State) (X0 : Stand p l e Qz s m #[(.int p0), (.int p1)] below meth c T0 [] 0 0) (e0 : T0.heap = h0) :
    own_Go p e below s Qz.cells Qz.slots (some (.int (f21_0 p0 p1))) (own_K0 h0) (T0.setTop (mkF m 0 #[iv p0, iv p1] [])) := by
  have hx := Bd.exec
  have hby := Bd.bytes
  have hown : s.vm.findClass "java/lang/Math" = some m.cls := findClass_of_methodNamed Bd.named
  unfold f21_0
  refine op T0 (mkF m 2 #[iv p0, iv p1] [(.int p1), (.int p0)]) (fun _ k => XS.iloadN X0.here hx rfl (hb hby d21_0) rfl (XS.iloadN X0.here hx rfl (hb hby d21_1) rfl k)) ?_
  refine own_iteI (fun hc2 => ?_) (fun hc2 => ?_)
  · skip
    refine op T0 (mkF m 10 #[iv p0, iv p1] [(.int p1)]) (fun _ k => XS.icmpYes X0.here hx rfl (pc0 := 2) (pc' := 9) rfl (hb hby d21_2) rfl (tlt hc2).1 (by decide) (by decide) (XS.iloadN X0.here hx rfl (hb hby d21_9) rfl k)) ?_
    exact own_ret X0 hx Bd.notSynchronized Bd.returns rfl (Or.inl ⟨rfl, by simp, _, rfl⟩) (hb hby d21_10) ⟨rfl, e0⟩ (by decide) (by decide)
  · skip
    refine op T0 (mkF m 10 #[iv p0, iv p1] [(.int p0)]) (fun _ k => XS.icmpNo X0.here hx rfl (hb hby d21_2) rfl (flt hc2).1 (XS.iloadN X0.here hx rfl (hb hby d21_5) rfl (XS.goto X0.here hx rfl (pc0 := 6) (pc' := 10) rfl (hb hby d21_6) (by decide) (by decide) k))) ?_
    exact own_ret X0 hx Bd.notSynchronized Bd.returns rfl (Or.inl ⟨rfl, by simp, _, rfl⟩) (hb hby d21_10) ⟨rfl, e0⟩ (by decide) (by decide)
theorem ef_21 (m : MethodId) (p0 p1 : Int32) : entryFrame m #[(.int p0), (.int p1)] 2 = mkF m 0 #[iv p0, iv p1] [] := by first | (simp [entryFrame, mkF, argsToLocals, Value.category]; done) | rfl
set_option maxRecDepth 65536 in
set_option maxHeartbeats 40000000 in
theorem rm21 (l : Launch) (Z : State) (aw : Array Value) (hw : HW aw Z) (ws : List Jvm.Cond) (p0 p1 : Int32) (h0 : Heap) :
    MetFree l (⟨"java/lang/Math", "max", "(II)I"⟩ : MethodName) (head1 (Jvm.Cond.code (⟨"java/lang/Math", "max", "(II)I"⟩ : MethodName) Hp 2 (some .int) :: ws) Qz) (fun a U => a = #[(.int p0), (.int p1)] ∧ Z.Warmed39 U.vm ∧ U.heap = h0) (fun _ _ _ _ _ => True) (fun _ U o U' => ∃ v L, o = .returned v ∧ own_Q (some (.int (f21_0 p0 p1))) (own_K0 h0) v U'.heap L ∧ FrameEnd U o U' L Qz.cells Qz.slots) := by
  refine MetFree.of_bodySF (Jvm.Free.JP.mathPlain rfl (by decide +kernel)) hisR ?_
  intro p e s m args below meth c s₁ Bd hml0 hP hK
  obtain ⟨rfl, hZ, hh⟩ := hP
  have hml : c.maxLocals = 2 := hml0
  have e0 : s₁.heap = h0 := by rw [← hh, Bd.state]; rfl
  exact own_pre (fun t k => castTop (ef_21 m p0 p1) k) (g21_0 hw p0 p1 Bd hml hZ s₁ (Stand.of_body Bd) e0)
/-! body 22 -/
theorem d22_0 : De Hq 0 (.iload_n 0) 1 := by decide +kernel
theorem d22_1 : De Hq 1 (.iload_n 1) 1 := by decide +kernel
theorem d22_2 : De Hq 2 (.if_icmp .gt 7) 3 := by decide +kernel
theorem d22_5 : De Hq 5 (.iload_n 0) 1 := by decide +kernel
theorem d22_6 : De Hq 6 (.goto 4) 3 := by decide +kernel
theorem d22_9 : De Hq 9 (.iload_n 1) 1 := by decide +kernel
theorem d22_10 : De Hq 10 (.ireturn) 1 := by decide +kernel
def f22_0 (p0 p1 : Int32) : Int32 := (if p1 < p0 then p1 else p0)
set_option maxRecDepth 65536 in
set_option maxHeartbeats 40000000 in
theorem g22_0 (hw : HW aw Z) {h0 : Heap} (p0 p1 : Int32)
    (Bd : BodyLoose p l (⟨"java/lang/Math", "min", "(II)I"⟩ : MethodName) (head1 (Jvm.Cond.code (⟨"java/lang/Math", "min", "(II)I"⟩ : MethodName) Hq 2 (some .int) :: ws) Qz) Hq 2 (some .int) e s m #[(.int p0), (.int p1)] below meth c s₁) (hml : c.maxLocals = 2) (hZ : Z.Warmed39 s.vm) (T0 : State) (X0 : Stand p l e Qz s m #[(.int p0), (.int p1)] below meth c T0 [] 0 0) (e0 : T0.heap = h0) :
    own_Go p e below s Qz.cells Qz.slots (some (.int (f22_0 p0 p1))) (own_K0 h0) (T0.setTop (mkF m 0 #[iv p0, iv p1] [])) := by
  have hx := Bd.exec
  have hby := Bd.bytes
  have hown : s.vm.findClass "java/lang/Math" = some m.cls := findClass_of_methodNamed Bd.named
  unfold f22_0
  refine op T0 (mkF m 2 #[iv p0, iv p1] [(.int p1), (.int p0)]) (fun _ k => XS.iloadN X0.here hx rfl (hb hby d22_0) rfl (XS.iloadN X0.here hx rfl (hb hby d22_1) rfl k)) ?_
  refine own_iteI (fun hc2 => ?_) (fun hc2 => ?_)
  · skip
    refine op T0 (mkF m 10 #[iv p0, iv p1] [(.int p1)]) (fun _ k => XS.icmpYes X0.here hx rfl (pc0 := 2) (pc' := 9) rfl (hb hby d22_2) rfl (tlt hc2).2.2.1 (by decide) (by decide) (XS.iloadN X0.here hx rfl (hb hby d22_9) rfl k)) ?_
    exact own_ret X0 hx Bd.notSynchronized Bd.returns rfl (Or.inl ⟨rfl, by simp, _, rfl⟩) (hb hby d22_10) ⟨rfl, e0⟩ (by decide) (by decide)
  · skip
    refine op T0 (mkF m 10 #[iv p0, iv p1] [(.int p0)]) (fun _ k => XS.icmpNo X0.here hx rfl (hb hby d22_2) rfl (flt hc2).2.2.1 (XS.iloadN X0.here hx rfl (hb hby d22_5) rfl (XS.goto X0.here hx rfl (pc0 := 6) (pc' := 10) rfl (hb hby d22_6) (by decide) (by decide) k))) ?_
    exact own_ret X0 hx Bd.notSynchronized Bd.returns rfl (Or.inl ⟨rfl, by simp, _, rfl⟩) (hb hby d22_10) ⟨rfl, e0⟩ (by decide) (by decide)
theorem ef_22 (m : MethodId) (p0 p1 : Int32) : entryFrame m #[(.int p0), (.int p1)] 2 = mkF m 0 #[iv p0, iv p1] [] := by first | (simp [entryFrame, mkF, argsToLocals, Value.category]; done) | rfl
set_option maxRecDepth 65536 in
set_option maxHeartbeats 40000000 in
theorem rm22 (l : Launch) (Z : State) (aw : Array Value) (hw : HW aw Z) (ws : List Jvm.Cond) (p0 p1 : Int32) (h0 : Heap) :
    MetFree l (⟨"java/lang/Math", "min", "(II)I"⟩ : MethodName) (head1 (Jvm.Cond.code (⟨"java/lang/Math", "min", "(II)I"⟩ : MethodName) Hq 2 (some .int) :: ws) Qz) (fun a U => a = #[(.int p0), (.int p1)] ∧ Z.Warmed39 U.vm ∧ U.heap = h0) (fun _ _ _ _ _ => True) (fun _ U o U' => ∃ v L, o = .returned v ∧ own_Q (some (.int (f22_0 p0 p1))) (own_K0 h0) v U'.heap L ∧ FrameEnd U o U' L Qz.cells Qz.slots) := by
  refine MetFree.of_bodySF (Jvm.Free.JP.mathPlain rfl (by decide +kernel)) hisR ?_
  intro p e s m args below meth c s₁ Bd hml0 hP hK
  obtain ⟨rfl, hZ, hh⟩ := hP
  have hml : c.maxLocals = 2 := hml0
  have e0 : s₁.heap = h0 := by rw [← hh, Bd.state]; rfl
  exact own_pre (fun t k => castTop (ef_22 m p0 p1) k) (g22_0 hw p0 p1 Bd hml hZ s₁ (Stand.of_body Bd) e0)
/-! body 20 -/
theorem d20_0 : De He 0 (.iload_n 0) 1 := by decide +kernel
theorem d20_1 : De He 1 (.ifCond .lt 14) 3 := by decide +kernel
theorem d20_4 : De He 4 (.iload_n 0) 1 := by decide +kernel
theorem d20_5 : De He 5 (.sipush 255) 3 := by decide +kernel
theorem d20_8 : De He 8 (.if_icmp .gt 7) 3 := by decide +kernel
theorem d20_11 : De He 11 (.iconst 1) 1 := by decide +kernel
theorem d20_12 : De He 12 (.goto 4) 3 := by decide +kernel
theorem d20_15 : De He 15 (.iconst 0) 1 := by decide +kernel
theorem d20_16 : De He 16 (.ireturn) 1 := by decide +kernel
theorem own_pn0 : plainName cL1 = true := by first | (simp [plainName, overriddenIn]; done) | decide +kernel
def f20_15 (p0 : Int32) : Int32 := (0 : Int32)
set_option maxRecDepth 65536 in
set_option maxHeartbeats 40000000 in
theorem g20_15 (hw : HW aw Z) {h0 : Heap} (p0 : Int32)
    (Bd : BodyLoose p l (⟨cL1, "canEncode", "(I)Z"⟩ : MethodName) (head1 (Jvm.Cond.code (⟨cL1, "canEncode", "(I)Z"⟩ : MethodName) He 1 (some .boolean) :: ws) Qz) He 1 (some .boolean) e s m #[(.int p0)] below meth c s₁) (hml : c.maxLocals = 1) (hZ : Z.Warmed39 s.vm) (T0 : State) (X0 : Stand p l e Qz s m #[(.int p0)] below meth c T0 [] 0 0) (e0 : T0.heap = h0) :
    own_Go p e below s Qz.cells Qz.slots (some (.int (f20_15 p0))) (own_K0 h0) (T0.setTop (mkF m 15 #[iv p0] [])) := by
  have hx := Bd.exec
  have hby := Bd.bytes
  have hown : s.vm.findClass cL1 = some m.cls := findClass_of_methodNamed Bd.named
  unfold f20_15
  refine op T0 (mkF m 16 #[iv p0] [(.int 0)]) (fun _ k => XS.iconst X0.here hx rfl (hb hby d20_15) k) ?_
  exact own_ret X0 hx Bd.notSynchronized Bd.returns rfl (Or.inl ⟨rfl, by simp, _, rfl⟩) (hb hby d20_16) ⟨rfl, e0⟩ (by decide) (by decide)
def f20_0 (p0 : Int32) : Int32 := (if p0 < (0 : Int32) then (f20_15 p0) else (if (255 : Int32) < p0 then (f20_15 p0) else (1 : Int32)))
set_option maxRecDepth 65536 in
set_option maxHeartbeats 40000000 in
theorem g20_0 (hw : HW aw Z) {h0 : Heap} (p0 : Int32)
    (Bd : BodyLoose p l (⟨cL1, "canEncode", "(I)Z"⟩ : MethodName) (head1 (Jvm.Cond.code (⟨cL1, "canEncode", "(I)Z"⟩ : MethodName) He 1 (some .boolean) :: ws) Qz) He 1 (some .boolean) e s m #[(.int p0)] below meth c s₁) (hml : c.maxLocals = 1) (hZ : Z.Warmed39 s.vm) (T0 : State) (X0 : Stand p l e Qz s m #[(.int p0)] below meth c T0 [] 0 0) (e0 : T0.heap = h0) :
    own_Go p e below s Qz.cells Qz.slots (some (.int (f20_0 p0))) (own_K0 h0) (T0.setTop (mkF m 0 #[iv p0] [])) := by
  have hx := Bd.exec
  have hby := Bd.bytes
  have hown : s.vm.findClass cL1 = some m.cls := findClass_of_methodNamed Bd.named
  unfold f20_0
  refine op T0 (mkF m 1 #[iv p0] [(.int p0)]) (fun _ k => XS.iloadN X0.here hx rfl (hb hby d20_0) rfl k) ?_
  refine own_iteI (fun hc1 => ?_) (fun hc1 => ?_)
  · skip
    refine op T0 (mkF m 15 #[iv p0] []) (fun _ k => XS.ifYes X0.here hx rfl (pc0 := 1) (pc' := 15) rfl (hb hby d20_1) rfl ((if0 _ _).trans (tlt hc1).1) (by decide) (by decide) k) ?_
    exact g20_15 hw p0 Bd hml hZ T0 X0 e0
  · skip
    refine op T0 (mkF m 8 #[iv p0] [(.int 255), (.int p0)]) (fun _ k => XS.ifNo X0.here hx rfl (hb hby d20_1) rfl ((if0 _ _).trans (flt hc1).1) (XS.iloadN X0.here hx rfl (hb hby d20_4) rfl (XS.sipush X0.here hx rfl (hb hby d20_5) k))) ?_
    refine own_iteI (fun hc8 => ?_) (fun hc8 => ?_)
    · skip
      refine op T0 (mkF m 15 #[iv p0] []) (fun _ k => XS.icmpYes X0.here hx rfl (pc0 := 8) (pc' := 15) rfl (hb hby d20_8) rfl (tlt hc8).2.2.1 (by decide) (by decide) k) ?_
      exact g20_15 hw p0 Bd hml hZ T0 X0 e0
    · skip
      refine op T0 (mkF m 16 #[iv p0] [(.int 1)]) (fun _ k => XS.icmpNo X0.here hx rfl (hb hby d20_8) rfl (flt hc8).2.2.1 (XS.iconst X0.here hx rfl (hb hby d20_11) (XS.goto X0.here hx rfl (pc0 := 12) (pc' := 16) rfl (hb hby d20_12) (by decide) (by decide) k))) ?_
      exact own_ret X0 hx Bd.notSynchronized Bd.returns rfl (Or.inl ⟨rfl, by simp, _, rfl⟩) (hb hby d20_16) ⟨rfl, e0⟩ (by decide) (by decide)
theorem ef_20 (m : MethodId) (p0 : Int32) : entryFrame m #[(.int p0)] 1 = mkF m 0 #[iv p0] [] := by first | (simp [entryFrame, mkF, argsToLocals, Value.category]; done) | rfl
set_option maxRecDepth 65536 in
set_option maxHeartbeats 40000000 in
theorem rm20 (l : Launch) (Z : State) (aw : Array Value) (hw : HW aw Z) (ws : List Jvm.Cond) (p0 : Int32) (h0 : Heap) :
    MetFree l (⟨cL1, "canEncode", "(I)Z"⟩ : MethodName) (head1 (Jvm.Cond.code (⟨cL1, "canEncode", "(I)Z"⟩ : MethodName) He 1 (some .boolean) :: ws) Qz) (fun a U => a = #[(.int p0)] ∧ Z.Warmed39 U.vm ∧ U.heap = h0) (fun _ _ _ _ _ => True) (fun _ U o U' => ∃ v L, o = .returned v ∧ own_Q (some (.int (f20_0 p0))) (own_K0 h0) v U'.heap L ∧ FrameEnd U o U' L Qz.cells Qz.slots) := by
  refine MetFree.of_bodySF (plainFor_of_name own_pn0) hisR ?_
  intro p e s m args below meth c s₁ Bd hml0 hP hK
  obtain ⟨rfl, hZ, hh⟩ := hP
  have hml : c.maxLocals = 1 := hml0
  have e0 : s₁.heap = h0 := by rw [← hh, Bd.state]; rfl
  exact own_pre (fun t k => castTop (ef_20 m p0) k) (g20_0 hw p0 Bd hml hZ s₁ (Stand.of_body Bd) e0)
/-! body 9 -/
theorem d9_0 : De Gg 0 (.iload_n 0) 1 := by decide +kernel
theorem d9_1 : De Gg 1 (.bipush 97) 2 := by decide +kernel
theorem d9_3 : De Gg 3 (.if_icmp .lt 11) 3 := by decide +kernel
theorem d9_6 : De Gg 6 (.iload_n 0) 1 := by decide +kernel
theorem d9_7 : De Gg 7 (.bipush 122) 2 := by decide +kernel
theorem d9_9 : De Gg 9 (.if_icmp .gt 5) 3 := by decide +kernel
theorem d9_12 : De Gg 12 (.iconst 1) 1 := by decide +kernel
theorem d9_13 : De Gg 13 (.ireturn) 1 := by decide +kernel
theorem d9_14 : De Gg 14 (.iload_n 0) 1 := by decide +kernel
theorem d9_15 : De Gg 15 (.bipush 65) 2 := by decide +kernel
theorem d9_17 : De Gg 17 (.if_icmp .lt 11) 3 := by decide +kernel
theorem d9_20 : De Gg 20 (.iload_n 0) 1 := by decide +kernel
theorem d9_21 : De Gg 21 (.bipush 90) 2 := by decide +kernel
theorem d9_23 : De Gg 23 (.if_icmp .gt 5) 3 := by decide +kernel
theorem d9_26 : De Gg 26 (.iconst 1) 1 := by decide +kernel
theorem d9_27 : De Gg 27 (.ireturn) 1 := by decide +kernel
theorem d9_28 : De Gg 28 (.iload_n 0) 1 := by decide +kernel
theorem d9_29 : De Gg 29 (.bipush 48) 2 := by decide +kernel
theorem d9_31 : De Gg 31 (.if_icmp .lt 11) 3 := by decide +kernel
theorem d9_34 : De Gg 34 (.iload_n 0) 1 := by decide +kernel
theorem d9_35 : De Gg 35 (.bipush 57) 2 := by decide +kernel
theorem d9_37 : De Gg 37 (.if_icmp .gt 5) 3 := by decide +kernel
theorem d9_40 : De Gg 40 (.iconst 1) 1 := by decide +kernel
theorem d9_41 : De Gg 41 (.ireturn) 1 := by decide +kernel
theorem d9_42 : De Gg 42 (.iload_n 0) 1 := by decide +kernel
theorem d9_43 : De Gg 43 (.bipush 33) 2 := by decide +kernel
theorem d9_45 : De Gg 45 (.if_icmp .eq 87) 3 := by decide +kernel
theorem d9_48 : De Gg 48 (.iload_n 0) 1 := by decide +kernel
theorem d9_49 : De Gg 49 (.bipush 35) 2 := by decide +kernel
theorem d9_51 : De Gg 51 (.if_icmp .eq 81) 3 := by decide +kernel
theorem d9_54 : De Gg 54 (.iload_n 0) 1 := by decide +kernel
theorem d9_55 : De Gg 55 (.bipush 36) 2 := by decide +kernel
theorem d9_57 : De Gg 57 (.if_icmp .eq 75) 3 := by decide +kernel
theorem d9_60 : De Gg 60 (.iload_n 0) 1 := by decide +kernel
theorem d9_61 : De Gg 61 (.bipush 37) 2 := by decide +kernel
theorem d9_63 : De Gg 63 (.if_icmp .eq 69) 3 := by decide +kernel
theorem d9_66 : De Gg 66 (.iload_n 0) 1 := by decide +kernel
theorem d9_67 : De Gg 67 (.bipush 38) 2 := by decide +kernel
theorem d9_69 : De Gg 69 (.if_icmp .eq 63) 3 := by decide +kernel
theorem d9_72 : De Gg 72 (.iload_n 0) 1 := by decide +kernel
theorem d9_73 : De Gg 73 (.bipush 39) 2 := by decide +kernel
theorem d9_75 : De Gg 75 (.if_icmp .eq 57) 3 := by decide +kernel
theorem d9_78 : De Gg 78 (.iload_n 0) 1 := by decide +kernel
theorem d9_79 : De Gg 79 (.bipush 42) 2 := by decide +kernel
theorem d9_81 : De Gg 81 (.if_icmp .eq 51) 3 := by decide +kernel
theorem d9_84 : De Gg 84 (.iload_n 0) 1 := by decide +kernel
theorem d9_85 : De Gg 85 (.bipush 43) 2 := by decide +kernel
theorem d9_87 : De Gg 87 (.if_icmp .eq 45) 3 := by decide +kernel
theorem d9_90 : De Gg 90 (.iload_n 0) 1 := by decide +kernel
theorem d9_91 : De Gg 91 (.bipush 45) 2 := by decide +kernel
theorem d9_93 : De Gg 93 (.if_icmp .eq 39) 3 := by decide +kernel
theorem d9_96 : De Gg 96 (.iload_n 0) 1 := by decide +kernel
theorem d9_97 : De Gg 97 (.bipush 46) 2 := by decide +kernel
theorem d9_99 : De Gg 99 (.if_icmp .eq 33) 3 := by decide +kernel
theorem d9_102 : De Gg 102 (.iload_n 0) 1 := by decide +kernel
theorem d9_103 : De Gg 103 (.bipush 94) 2 := by decide +kernel
theorem d9_105 : De Gg 105 (.if_icmp .eq 27) 3 := by decide +kernel
theorem d9_108 : De Gg 108 (.iload_n 0) 1 := by decide +kernel
theorem d9_109 : De Gg 109 (.bipush 95) 2 := by decide +kernel
theorem d9_111 : De Gg 111 (.if_icmp .eq 21) 3 := by decide +kernel
theorem d9_114 : De Gg 114 (.iload_n 0) 1 := by decide +kernel
theorem d9_115 : De Gg 115 (.bipush 96) 2 := by decide +kernel
theorem d9_117 : De Gg 117 (.if_icmp .eq 15) 3 := by decide +kernel
theorem d9_120 : De Gg 120 (.iload_n 0) 1 := by decide +kernel
theorem d9_121 : De Gg 121 (.bipush 124) 2 := by decide +kernel
theorem d9_123 : De Gg 123 (.if_icmp .eq 9) 3 := by decide +kernel
theorem d9_126 : De Gg 126 (.iload_n 0) 1 := by decide +kernel
theorem d9_127 : De Gg 127 (.bipush 126) 2 := by decide +kernel
theorem d9_129 : De Gg 129 (.if_icmp .ne 7) 3 := by decide +kernel
theorem d9_132 : De Gg 132 (.iconst 1) 1 := by decide +kernel
theorem d9_133 : De Gg 133 (.goto 4) 3 := by decide +kernel
theorem d9_136 : De Gg 136 (.iconst 0) 1 := by decide +kernel
theorem d9_137 : De Gg 137 (.ireturn) 1 := by decide +kernel
theorem own_pn1 : plainName cL = true := by first | (simp [plainName, overriddenIn]; done) | decide +kernel
def f9_132 (p0 : Int32) : Int32 := (1 : Int32)
set_option maxRecDepth 65536 in
set_option maxHeartbeats 40000000 in
theorem g9_132 (hw : HW aw Z) {h0 : Heap} (p0 : Int32)
    (Bd : BodyLoose p l (⟨cL, "tchar", "(C)Z"⟩ : MethodName) (head1 (Jvm.Cond.code (⟨cL, "tchar", "(C)Z"⟩ : MethodName) Gg 1 (some .boolean) :: ws) Qz) Gg 1 (some .boolean) e s m #[(.int p0)] below meth c s₁) (hml : c.maxLocals = 1) (hZ : Z.Warmed39 s.vm) (T0 : State) (X0 : Stand p l e Qz s m #[(.int p0)] below meth c T0 [] 0 0) (e0 : T0.heap = h0) :
    own_Go p e below s Qz.cells Qz.slots (some (.int (f9_132 p0))) (own_K0 h0) (T0.setTop (mkF m 132 #[iv p0] [])) := by
  have hx := Bd.exec
  have hby := Bd.bytes
  have hown : s.vm.findClass cL = some m.cls := findClass_of_methodNamed Bd.named
  unfold f9_132
  refine op T0 (mkF m 137 #[iv p0] [(.int 1)]) (fun _ k => XS.iconst X0.here hx rfl (hb hby d9_132) (XS.goto X0.here hx rfl (pc0 := 133) (pc' := 137) rfl (hb hby d9_133) (by decide) (by decide) k)) ?_
  exact own_ret X0 hx Bd.notSynchronized Bd.returns rfl (Or.inl ⟨rfl, by simp, _, rfl⟩) (hb hby d9_137) ⟨rfl, e0⟩ (by decide) (by decide)
def f9_42 (p0 : Int32) : Int32 := (if p0 = (33 : Int32) then (f9_132 p0) else (if p0 = (35 : Int32) then (f9_132 p0) else (if p0 = (36 : Int32) then (f9_132 p0) else (if p0 = (37 : Int32) then (f9_132 p0) else (if p0 = (38 : Int32) then (f9_132 p0) else (if p0 = (39 : Int32) then (f9_132 p0) else (if p0 = (42 : Int32) then (f9_132 p0) else (if p0 = (43 : Int32) then (f9_132 p0) else (if p0 = (45 : Int32) then (f9_132 p0) else (if p0 = (46 : Int32) then (f9_132 p0) else (if p0 = (94 : Int32) then (f9_132 p0) else (if p0 = (95 : Int32) then (f9_132 p0) else (if p0 = (96 : Int32) then (f9_132 p0) else (if p0 = (124 : Int32) then (f9_132 p0) else (if p0 = (126 : Int32) then (f9_132 p0) else (0 : Int32))))))))))))))))
set_option maxRecDepth 65536 in
set_option maxHeartbeats 40000000 in
theorem g9_42 (hw : HW aw Z) {h0 : Heap} (p0 : Int32)
    (Bd : BodyLoose p l (⟨cL, "tchar", "(C)Z"⟩ : MethodName) (head1 (Jvm.Cond.code (⟨cL, "tchar", "(C)Z"⟩ : MethodName) Gg 1 (some .boolean) :: ws) Qz) Gg 1 (some .boolean) e s m #[(.int p0)] below meth c s₁) (hml : c.maxLocals = 1) (hZ : Z.Warmed39 s.vm) (T0 : State) (X0 : Stand p l e Qz s m #[(.int p0)] below meth c T0 [] 0 0) (e0 : T0.heap = h0) :
    own_Go p e below s Qz.cells Qz.slots (some (.int (f9_42 p0))) (own_K0 h0) (T0.setTop (mkF m 42 #[iv p0] [])) := by
  have hx := Bd.exec
  have hby := Bd.bytes
  have hown : s.vm.findClass cL = some m.cls := findClass_of_methodNamed Bd.named
  unfold f9_42
  refine op T0 (mkF m 45 #[iv p0] [(.int 33), (.int p0)]) (fun _ k => XS.iloadN X0.here hx rfl (hb hby d9_42) rfl (XS.bipush X0.here hx rfl (hb hby d9_43) k)) ?_
  refine own_iteI (fun hc45 => ?_) (fun hc45 => ?_)
  · skip
    refine op T0 (mkF m 132 #[iv p0] []) (fun _ k => XS.icmpYes X0.here hx rfl (pc0 := 45) (pc' := 132) rfl (hb hby d9_45) rfl (teq hc45).1 (by decide) (by decide) k) ?_
    exact g9_132 hw p0 Bd hml hZ T0 X0 e0
  · skip
    refine op T0 (mkF m 51 #[iv p0] [(.int 35), (.int p0)]) (fun _ k => XS.icmpNo X0.here hx rfl (hb hby d9_45) rfl (feq hc45).1 (XS.iloadN X0.here hx rfl (hb hby d9_48) rfl (XS.bipush X0.here hx rfl (hb hby d9_49) k))) ?_
    refine own_iteI (fun hc51 => ?_) (fun hc51 => ?_)
    · skip
      refine op T0 (mkF m 132 #[iv p0] []) (fun _ k => XS.icmpYes X0.here hx rfl (pc0 := 51) (pc' := 132) rfl (hb hby d9_51) rfl (teq hc51).1 (by decide) (by decide) k) ?_
      exact g9_132 hw p0 Bd hml hZ T0 X0 e0
    · skip
      refine op T0 (mkF m 57 #[iv p0] [(.int 36), (.int p0)]) (fun _ k => XS.icmpNo X0.here hx rfl (hb hby d9_51) rfl (feq hc51).1 (XS.iloadN X0.here hx rfl (hb hby d9_54) rfl (XS.bipush X0.here hx rfl (hb hby d9_55) k))) ?_
      refine own_iteI (fun hc57 => ?_) (fun hc57 => ?_)
      · skip
        refine op T0 (mkF m 132 #[iv p0] []) (fun _ k => XS.icmpYes X0.here hx rfl (pc0 := 57) (pc' := 132) rfl (hb hby d9_57) rfl (teq hc57).1 (by decide) (by decide) k) ?_
        exact g9_132 hw p0 Bd hml hZ T0 X0 e0
      · skip
        refine op T0 (mkF m 63 #[iv p0] [(.int 37), (.int p0)]) (fun _ k => XS.icmpNo X0.here hx rfl (hb hby d9_57) rfl (feq hc57).1 (XS.iloadN X0.here hx rfl (hb hby d9_60) rfl (XS.bipush X0.here hx rfl (hb hby d9_61) k))) ?_
        refine own_iteI (fun hc63 => ?_) (fun hc63 => ?_)
        · skip
          refine op T0 (mkF m 132 #[iv p0] []) (fun _ k => XS.icmpYes X0.here hx rfl (pc0 := 63) (pc' := 132) rfl (hb hby d9_63) rfl (teq hc63).1 (by decide) (by decide) k) ?_
          exact g9_132 hw p0 Bd hml hZ T0 X0 e0
        · skip
          refine op T0 (mkF m 69 #[iv p0] [(.int 38), (.int p0)]) (fun _ k => XS.icmpNo X0.here hx rfl (hb hby d9_63) rfl (feq hc63).1 (XS.iloadN X0.here hx rfl (hb hby d9_66) rfl (XS.bipush X0.here hx rfl (hb hby d9_67) k))) ?_
          refine own_iteI (fun hc69 => ?_) (fun hc69 => ?_)
          · skip
            refine op T0 (mkF m 132 #[iv p0] []) (fun _ k => XS.icmpYes X0.here hx rfl (pc0 := 69) (pc' := 132) rfl (hb hby d9_69) rfl (teq hc69).1 (by decide) (by decide) k) ?_
            exact g9_132 hw p0 Bd hml hZ T0 X0 e0
          · skip
            refine op T0 (mkF m 75 #[iv p0] [(.int 39), (.int p0)]) (fun _ k => XS.icmpNo X0.here hx rfl (hb hby d9_69) rfl (feq hc69).1 (XS.iloadN X0.here hx rfl (hb hby d9_72) rfl (XS.bipush X0.here hx rfl (hb hby d9_73) k))) ?_
            refine own_iteI (fun hc75 => ?_) (fun hc75 => ?_)
            · skip
              refine op T0 (mkF m 132 #[iv p0] []) (fun _ k => XS.icmpYes X0.here hx rfl (pc0 := 75) (pc' := 132) rfl (hb hby d9_75) rfl (teq hc75).1 (by decide) (by decide) k) ?_
              exact g9_132 hw p0 Bd hml hZ T0 X0 e0
            · skip
              refine op T0 (mkF m 81 #[iv p0] [(.int 42), (.int p0)]) (fun _ k => XS.icmpNo X0.here hx rfl (hb hby d9_75) rfl (feq hc75).1 (XS.iloadN X0.here hx rfl (hb hby d9_78) rfl (XS.bipush X0.here hx rfl (hb hby d9_79) k))) ?_
              refine own_iteI (fun hc81 => ?_) (fun hc81 => ?_)
              · skip
                refine op T0 (mkF m 132 #[iv p0] []) (fun _ k => XS.icmpYes X0.here hx rfl (pc0 := 81) (pc' := 132) rfl (hb hby d9_81) rfl (teq hc81).1 (by decide) (by decide) k) ?_
                exact g9_132 hw p0 Bd hml hZ T0 X0 e0
              · skip
                refine op T0 (mkF m 87 #[iv p0] [(.int 43), (.int p0)]) (fun _ k => XS.icmpNo X0.here hx rfl (hb hby d9_81) rfl (feq hc81).1 (XS.iloadN X0.here hx rfl (hb hby d9_84) rfl (XS.bipush X0.here hx rfl (hb hby d9_85) k))) ?_
                refine own_iteI (fun hc87 => ?_) (fun hc87 => ?_)
                · skip
                  refine op T0 (mkF m 132 #[iv p0] []) (fun _ k => XS.icmpYes X0.here hx rfl (pc0 := 87) (pc' := 132) rfl (hb hby d9_87) rfl (teq hc87).1 (by decide) (by decide) k) ?_
                  exact g9_132 hw p0 Bd hml hZ T0 X0 e0
                · skip
                  refine op T0 (mkF m 93 #[iv p0] [(.int 45), (.int p0)]) (fun _ k => XS.icmpNo X0.here hx rfl (hb hby d9_87) rfl (feq hc87).1 (XS.iloadN X0.here hx rfl (hb hby d9_90) rfl (XS.bipush X0.here hx rfl (hb hby d9_91) k))) ?_
                  refine own_iteI (fun hc93 => ?_) (fun hc93 => ?_)
                  · skip
                    refine op T0 (mkF m 132 #[iv p0] []) (fun _ k => XS.icmpYes X0.here hx rfl (pc0 := 93) (pc' := 132) rfl (hb hby d9_93) rfl (teq hc93).1 (by decide) (by decide) k) ?_
                    exact g9_132 hw p0 Bd hml hZ T0 X0 e0
                  · skip
                    refine op T0 (mkF m 99 #[iv p0] [(.int 46), (.int p0)]) (fun _ k => XS.icmpNo X0.here hx rfl (hb hby d9_93) rfl (feq hc93).1 (XS.iloadN X0.here hx rfl (hb hby d9_96) rfl (XS.bipush X0.here hx rfl (hb hby d9_97) k))) ?_
                    refine own_iteI (fun hc99 => ?_) (fun hc99 => ?_)
                    · skip
                      refine op T0 (mkF m 132 #[iv p0] []) (fun _ k => XS.icmpYes X0.here hx rfl (pc0 := 99) (pc' := 132) rfl (hb hby d9_99) rfl (teq hc99).1 (by decide) (by decide) k) ?_
                      exact g9_132 hw p0 Bd hml hZ T0 X0 e0
                    · skip
                      refine op T0 (mkF m 105 #[iv p0] [(.int 94), (.int p0)]) (fun _ k => XS.icmpNo X0.here hx rfl (hb hby d9_99) rfl (feq hc99).1 (XS.iloadN X0.here hx rfl (hb hby d9_102) rfl (XS.bipush X0.here hx rfl (hb hby d9_103) k))) ?_
                      refine own_iteI (fun hc105 => ?_) (fun hc105 => ?_)
                      · skip
                        refine op T0 (mkF m 132 #[iv p0] []) (fun _ k => XS.icmpYes X0.here hx rfl (pc0 := 105) (pc' := 132) rfl (hb hby d9_105) rfl (teq hc105).1 (by decide) (by decide) k) ?_
                        exact g9_132 hw p0 Bd hml hZ T0 X0 e0
                      · skip
                        refine op T0 (mkF m 111 #[iv p0] [(.int 95), (.int p0)]) (fun _ k => XS.icmpNo X0.here hx rfl (hb hby d9_105) rfl (feq hc105).1 (XS.iloadN X0.here hx rfl (hb hby d9_108) rfl (XS.bipush X0.here hx rfl (hb hby d9_109) k))) ?_
                        refine own_iteI (fun hc111 => ?_) (fun hc111 => ?_)
                        · skip
                          refine op T0 (mkF m 132 #[iv p0] []) (fun _ k => XS.icmpYes X0.here hx rfl (pc0 := 111) (pc' := 132) rfl (hb hby d9_111) rfl (teq hc111).1 (by decide) (by decide) k) ?_
                          exact g9_132 hw p0 Bd hml hZ T0 X0 e0
                        · skip
                          refine op T0 (mkF m 117 #[iv p0] [(.int 96), (.int p0)]) (fun _ k => XS.icmpNo X0.here hx rfl (hb hby d9_111) rfl (feq hc111).1 (XS.iloadN X0.here hx rfl (hb hby d9_114) rfl (XS.bipush X0.here hx rfl (hb hby d9_115) k))) ?_
                          refine own_iteI (fun hc117 => ?_) (fun hc117 => ?_)
                          · skip
                            refine op T0 (mkF m 132 #[iv p0] []) (fun _ k => XS.icmpYes X0.here hx rfl (pc0 := 117) (pc' := 132) rfl (hb hby d9_117) rfl (teq hc117).1 (by decide) (by decide) k) ?_
                            exact g9_132 hw p0 Bd hml hZ T0 X0 e0
                          · skip
                            refine op T0 (mkF m 123 #[iv p0] [(.int 124), (.int p0)]) (fun _ k => XS.icmpNo X0.here hx rfl (hb hby d9_117) rfl (feq hc117).1 (XS.iloadN X0.here hx rfl (hb hby d9_120) rfl (XS.bipush X0.here hx rfl (hb hby d9_121) k))) ?_
                            refine own_iteI (fun hc123 => ?_) (fun hc123 => ?_)
                            · skip
                              refine op T0 (mkF m 132 #[iv p0] []) (fun _ k => XS.icmpYes X0.here hx rfl (pc0 := 123) (pc' := 132) rfl (hb hby d9_123) rfl (teq hc123).1 (by decide) (by decide) k) ?_
                              exact g9_132 hw p0 Bd hml hZ T0 X0 e0
                            · skip
                              refine op T0 (mkF m 129 #[iv p0] [(.int 126), (.int p0)]) (fun _ k => XS.icmpNo X0.here hx rfl (hb hby d9_123) rfl (feq hc123).1 (XS.iloadN X0.here hx rfl (hb hby d9_126) rfl (XS.bipush X0.here hx rfl (hb hby d9_127) k))) ?_
                              refine own_iteI (fun hc129 => ?_) (fun hc129 => ?_)
                              · skip
                                refine op T0 (mkF m 132 #[iv p0] []) (fun _ k => XS.icmpNo X0.here hx rfl (hb hby d9_129) rfl (teq hc129).2 k) ?_
                                exact g9_132 hw p0 Bd hml hZ T0 X0 e0
                              · skip
                                refine op T0 (mkF m 137 #[iv p0] [(.int 0)]) (fun _ k => XS.icmpYes X0.here hx rfl (pc0 := 129) (pc' := 136) rfl (hb hby d9_129) rfl (feq hc129).2 (by decide) (by decide) (XS.iconst X0.here hx rfl (hb hby d9_136) k)) ?_
                                exact own_ret X0 hx Bd.notSynchronized Bd.returns rfl (Or.inl ⟨rfl, by simp, _, rfl⟩) (hb hby d9_137) ⟨rfl, e0⟩ (by decide) (by decide)
def f9_28 (p0 : Int32) : Int32 := (if p0 < (48 : Int32) then (f9_42 p0) else (if (57 : Int32) < p0 then (f9_42 p0) else (1 : Int32)))
set_option maxRecDepth 65536 in
set_option maxHeartbeats 40000000 in
theorem g9_28 (hw : HW aw Z) {h0 : Heap} (p0 : Int32)
    (Bd : BodyLoose p l (⟨cL, "tchar", "(C)Z"⟩ : MethodName) (head1 (Jvm.Cond.code (⟨cL, "tchar", "(C)Z"⟩ : MethodName) Gg 1 (some .boolean) :: ws) Qz) Gg 1 (some .boolean) e s m #[(.int p0)] below meth c s₁) (hml : c.maxLocals = 1) (hZ : Z.Warmed39 s.vm) (T0 : State) (X0 : Stand p l e Qz s m #[(.int p0)] below meth c T0 [] 0 0) (e0 : T0.heap = h0) :
    own_Go p e below s Qz.cells Qz.slots (some (.int (f9_28 p0))) (own_K0 h0) (T0.setTop (mkF m 28 #[iv p0] [])) := by
  have hx := Bd.exec
  have hby := Bd.bytes
  have hown : s.vm.findClass cL = some m.cls := findClass_of_methodNamed Bd.named
  unfold f9_28
  refine op T0 (mkF m 31 #[iv p0] [(.int 48), (.int p0)]) (fun _ k => XS.iloadN X0.here hx rfl (hb hby d9_28) rfl (XS.bipush X0.here hx rfl (hb hby d9_29) k)) ?_
  refine own_iteI (fun hc31 => ?_) (fun hc31 => ?_)
  · skip
    refine op T0 (mkF m 42 #[iv p0] []) (fun _ k => XS.icmpYes X0.here hx rfl (pc0 := 31) (pc' := 42) rfl (hb hby d9_31) rfl (tlt hc31).1 (by decide) (by decide) k) ?_
    exact g9_42 hw p0 Bd hml hZ T0 X0 e0
  · skip
    refine op T0 (mkF m 37 #[iv p0] [(.int 57), (.int p0)]) (fun _ k => XS.icmpNo X0.here hx rfl (hb hby d9_31) rfl (flt hc31).1 (XS.iloadN X0.here hx rfl (hb hby d9_34) rfl (XS.bipush X0.here hx rfl (hb hby d9_35) k))) ?_
    refine own_iteI (fun hc37 => ?_) (fun hc37 => ?_)
    · skip
      refine op T0 (mkF m 42 #[iv p0] []) (fun _ k => XS.icmpYes X0.here hx rfl (pc0 := 37) (pc' := 42) rfl (hb hby d9_37) rfl (tlt hc37).2.2.1 (by decide) (by decide) k) ?_
      exact g9_42 hw p0 Bd hml hZ T0 X0 e0
    · skip
      refine op T0 (mkF m 41 #[iv p0] [(.int 1)]) (fun _ k => XS.icmpNo X0.here hx rfl (hb hby d9_37) rfl (flt hc37).2.2.1 (XS.iconst X0.here hx rfl (hb hby d9_40) k)) ?_
      exact own_ret X0 hx Bd.notSynchronized Bd.returns rfl (Or.inl ⟨rfl, by simp, _, rfl⟩) (hb hby d9_41) ⟨rfl, e0⟩ (by decide) (by decide)
def f9_14 (p0 : Int32) : Int32 := (if p0 < (65 : Int32) then (f9_28 p0) else (if (90 : Int32) < p0 then (f9_28 p0) else (1 : Int32)))
set_option maxRecDepth 65536 in
set_option maxHeartbeats 40000000 in
theorem g9_14 (hw : HW aw Z) {h0 : Heap} (p0 : Int32)
    (Bd : BodyLoose p l (⟨cL, "tchar", "(C)Z"⟩ : MethodName) (head1 (Jvm.Cond.code (⟨cL, "tchar", "(C)Z"⟩ : MethodName) Gg 1 (some .boolean) :: ws) Qz) Gg 1 (some .boolean) e s m #[(.int p0)] below meth c s₁) (hml : c.maxLocals = 1) (hZ : Z.Warmed39 s.vm) (T0 : State) (X0 : Stand p l e Qz s m #[(.int p0)] below meth c T0 [] 0 0) (e0 : T0.heap = h0) :
    own_Go p e below s Qz.cells Qz.slots (some (.int (f9_14 p0))) (own_K0 h0) (T0.setTop (mkF m 14 #[iv p0] [])) := by
  have hx := Bd.exec
  have hby := Bd.bytes
  have hown : s.vm.findClass cL = some m.cls := findClass_of_methodNamed Bd.named
  unfold f9_14
  refine op T0 (mkF m 17 #[iv p0] [(.int 65), (.int p0)]) (fun _ k => XS.iloadN X0.here hx rfl (hb hby d9_14) rfl (XS.bipush X0.here hx rfl (hb hby d9_15) k)) ?_
  refine own_iteI (fun hc17 => ?_) (fun hc17 => ?_)
  · skip
    refine op T0 (mkF m 28 #[iv p0] []) (fun _ k => XS.icmpYes X0.here hx rfl (pc0 := 17) (pc' := 28) rfl (hb hby d9_17) rfl (tlt hc17).1 (by decide) (by decide) k) ?_
    exact g9_28 hw p0 Bd hml hZ T0 X0 e0
  · skip
    refine op T0 (mkF m 23 #[iv p0] [(.int 90), (.int p0)]) (fun _ k => XS.icmpNo X0.here hx rfl (hb hby d9_17) rfl (flt hc17).1 (XS.iloadN X0.here hx rfl (hb hby d9_20) rfl (XS.bipush X0.here hx rfl (hb hby d9_21) k))) ?_
    refine own_iteI (fun hc23 => ?_) (fun hc23 => ?_)
    · skip
      refine op T0 (mkF m 28 #[iv p0] []) (fun _ k => XS.icmpYes X0.here hx rfl (pc0 := 23) (pc' := 28) rfl (hb hby d9_23) rfl (tlt hc23).2.2.1 (by decide) (by decide) k) ?_
      exact g9_28 hw p0 Bd hml hZ T0 X0 e0
    · skip
      refine op T0 (mkF m 27 #[iv p0] [(.int 1)]) (fun _ k => XS.icmpNo X0.here hx rfl (hb hby d9_23) rfl (flt hc23).2.2.1 (XS.iconst X0.here hx rfl (hb hby d9_26) k)) ?_
      exact own_ret X0 hx Bd.notSynchronized Bd.returns rfl (Or.inl ⟨rfl, by simp, _, rfl⟩) (hb hby d9_27) ⟨rfl, e0⟩ (by decide) (by decide)
def f9_0 (p0 : Int32) : Int32 := (if p0 < (97 : Int32) then (f9_14 p0) else (if (122 : Int32) < p0 then (f9_14 p0) else (1 : Int32)))
set_option maxRecDepth 65536 in
set_option maxHeartbeats 40000000 in
theorem g9_0 (hw : HW aw Z) {h0 : Heap} (p0 : Int32)
    (Bd : BodyLoose p l (⟨cL, "tchar", "(C)Z"⟩ : MethodName) (head1 (Jvm.Cond.code (⟨cL, "tchar", "(C)Z"⟩ : MethodName) Gg 1 (some .boolean) :: ws) Qz) Gg 1 (some .boolean) e s m #[(.int p0)] below meth c s₁) (hml : c.maxLocals = 1) (hZ : Z.Warmed39 s.vm) (T0 : State) (X0 : Stand p l e Qz s m #[(.int p0)] below meth c T0 [] 0 0) (e0 : T0.heap = h0) :
    own_Go p e below s Qz.cells Qz.slots (some (.int (f9_0 p0))) (own_K0 h0) (T0.setTop (mkF m 0 #[iv p0] [])) := by
  have hx := Bd.exec
  have hby := Bd.bytes
  have hown : s.vm.findClass cL = some m.cls := findClass_of_methodNamed Bd.named
  unfold f9_0
  refine op T0 (mkF m 3 #[iv p0] [(.int 97), (.int p0)]) (fun _ k => XS.iloadN X0.here hx rfl (hb hby d9_0) rfl (XS.bipush X0.here hx rfl (hb hby d9_1) k)) ?_
  refine own_iteI (fun hc3 => ?_) (fun hc3 => ?_)
  · skip
    refine op T0 (mkF m 14 #[iv p0] []) (fun _ k => XS.icmpYes X0.here hx rfl (pc0 := 3) (pc' := 14) rfl (hb hby d9_3) rfl (tlt hc3).1 (by decide) (by decide) k) ?_
    exact g9_14 hw p0 Bd hml hZ T0 X0 e0
  · skip
    refine op T0 (mkF m 9 #[iv p0] [(.int 122), (.int p0)]) (fun _ k => XS.icmpNo X0.here hx rfl (hb hby d9_3) rfl (flt hc3).1 (XS.iloadN X0.here hx rfl (hb hby d9_6) rfl (XS.bipush X0.here hx rfl (hb hby d9_7) k))) ?_
    refine own_iteI (fun hc9 => ?_) (fun hc9 => ?_)
    · skip
      refine op T0 (mkF m 14 #[iv p0] []) (fun _ k => XS.icmpYes X0.here hx rfl (pc0 := 9) (pc' := 14) rfl (hb hby d9_9) rfl (tlt hc9).2.2.1 (by decide) (by decide) k) ?_
      exact g9_14 hw p0 Bd hml hZ T0 X0 e0
    · skip
      refine op T0 (mkF m 13 #[iv p0] [(.int 1)]) (fun _ k => XS.icmpNo X0.here hx rfl (hb hby d9_9) rfl (flt hc9).2.2.1 (XS.iconst X0.here hx rfl (hb hby d9_12) k)) ?_
      exact own_ret X0 hx Bd.notSynchronized Bd.returns rfl (Or.inl ⟨rfl, by simp, _, rfl⟩) (hb hby d9_13) ⟨rfl, e0⟩ (by decide) (by decide)
theorem ef_9 (m : MethodId) (p0 : Int32) : entryFrame m #[(.int p0)] 1 = mkF m 0 #[iv p0] [] := by first | (simp [entryFrame, mkF, argsToLocals, Value.category]; done) | rfl
set_option maxRecDepth 65536 in
set_option maxHeartbeats 40000000 in
theorem rm9 (l : Launch) (Z : State) (aw : Array Value) (hw : HW aw Z) (ws : List Jvm.Cond) (p0 : Int32) (h0 : Heap) :
    MetFree l (⟨cL, "tchar", "(C)Z"⟩ : MethodName) (head1 (Jvm.Cond.code (⟨cL, "tchar", "(C)Z"⟩ : MethodName) Gg 1 (some .boolean) :: ws) Qz) (fun a U => a = #[(.int p0)] ∧ Z.Warmed39 U.vm ∧ U.heap = h0) (fun _ _ _ _ _ => True) (fun _ U o U' => ∃ v L, o = .returned v ∧ own_Q (some (.int (f9_0 p0))) (own_K0 h0) v U'.heap L ∧ FrameEnd U o U' L Qz.cells Qz.slots) := by
  refine MetFree.of_bodySF (plainFor_of_name own_pn1) hisR ?_
  intro p e s m args below meth c s₁ Bd hml0 hP hK
  obtain ⟨rfl, hZ, hh⟩ := hP
  have hml : c.maxLocals = 1 := hml0
  have e0 : s₁.heap = h0 := by rw [← hh, Bd.state]; rfl
  exact own_pre (fun t k => castTop (ef_9 m p0) k) (g9_0 hw p0 Bd hml hZ s₁ (Stand.of_body Bd) e0)
abbrev QpcN : Room := { frames := 0, cells := 0, slots := 0, locals := 0 }
/-! body 16, pcN -/
theorem d16_0 : De Hg 0 (.iload_n 0) 1 := by decide +kernel
theorem d16_1 : De Hg 1 (.ifCond .lt 8) 3 := by decide +kernel
theorem d16_4 : De Hg 4 (.iload_n 0) 1 := by decide +kernel
theorem d16_5 : De Hg 5 (.iload_n 1) 1 := by decide +kernel
theorem d16_6 : De Hg 6 (.if_icmp .lt 10) 3 := by decide +kernel
theorem d16_16 : De Hg 16 (.iload_n 0) 1 := by decide +kernel
theorem d16_17 : De Hg 17 (.ireturn) 1 := by decide +kernel
abbrev y0 : MethodName := ⟨"jdk/internal/util/Preconditions", "checkIndex", "(IILjava/util/function/BiFunction;)I"⟩
theorem own_pn2 : plainName "jdk/internal/util/Preconditions" = true := by first | (simp [plainName, overriddenIn]; done) | decide +kernel
def RpcN (t : Int32) : Option Value := some (.int t)
def KpcN (Z : State) (p0 p1 : Int32)  (h0 : Heap) (n0 : Nat) (t : Int32) (h : Heap) (L : List Loc) : Prop := own_K0 h0 h L
def fpcN_0 (p0 p1 : Int32) : Int32 := p0
set_option maxRecDepth 65536 in
set_option maxHeartbeats 40000000 in
theorem gpcN_0 (hw : HW aw Z) {h0 : Heap} {n0 : Nat} (p0 p1 : Int32)  (h1 : ¬ p0 < (0 : Int32)) (h2 : p0 < p1)
    (Bd : BodyLoose p l y0 (head1 (Jvm.Cond.code y0 Hg 3 (some .int) :: ws) QpcN) Hg 3 (some .int) e s m #[(.int p0), (.int p1), .null] below meth c s₁) (hml : c.maxLocals = 3) (hZ : Z.Warmed39 s.vm) (T0 : State) {locs : List Loc} (X0 : Stand p l e QpcN s m #[(.int p0), (.int p1), .null] below meth c T0 locs 0 0) (e0 : T0.heap = h0) (SZ0 : n0 ≤ h0.size) (NF0 : locs = []) :
    own_Go p e below s QpcN.cells QpcN.slots (RpcN (fpcN_0 p0 p1)) (KpcN Z p0 p1  h0 n0 (fpcN_0 p0 p1)) (T0.setTop (mkF m 0 #[iv p0, iv p1, .val .null] [])) := by
  have hx := Bd.exec
  have hby := Bd.bytes
  have hown : s.vm.findClass "jdk/internal/util/Preconditions" = some m.cls := findClass_of_methodNamed Bd.named
  have hnm := (name_of_methodNamed Bd.named Bd.method).1
  unfold fpcN_0
  refine op T0 (mkF m 1 #[iv p0, iv p1, .val .null] [(.int p0)]) (fun _ k => XS.iloadN X0.here hx rfl (hb hby d16_0) rfl k) ?_
  have hc1 : ¬ (p0 < (0 : Int32)) := h1
  refine op T0 (mkF m 6 #[iv p0, iv p1, .val .null] [(.int p1), (.int p0)]) (fun _ k => XS.ifNo X0.here hx rfl (hb hby d16_1) rfl ((if0 _ _).trans (flt hc1).1) (XS.iloadN X0.here hx rfl (hb hby d16_4) rfl (XS.iloadN X0.here hx rfl (hb hby d16_5) rfl k))) ?_
  have hc6 : p0 < p1 := h2
  refine op T0 (mkF m 17 #[iv p0, iv p1, .val .null] [(.int p0)]) (fun _ k => XS.icmpYes X0.here hx rfl (pc0 := 6) (pc' := 16) rfl (hb hby d16_6) rfl (tlt hc6).1 (by decide) (by decide) (XS.iloadN X0.here hx rfl (hb hby d16_16) rfl k)) ?_
  exact own_ret (w := (.int p0)) X0 hx Bd.notSynchronized Bd.returns rfl (Or.inl ⟨rfl, by simp, _, rfl⟩) (hb hby d16_17) (by rw [e0]; exact ⟨NF0, rfl⟩) (by decide) (by decide)
theorem ef_pcN (m : MethodId) (p0 p1 : Int32) : entryFrame m #[(.int p0), (.int p1), .null] 3 = mkF m 0 #[iv p0, iv p1, .val .null] [] := by first | (simp [entryFrame, mkF, argsToLocals, Value.category]; done) | rfl
set_option maxRecDepth 65536 in
set_option maxHeartbeats 40000000 in
theorem rmpcN (l : Launch) (Z : State) (aw : Array Value) (hw : HW aw Z) (ws : List Jvm.Cond) (p0 p1 : Int32)  (h0 : Heap) (n0 : Nat) (SZ0 : n0 ≤ h0.size) (h1 : ¬ p0 < (0 : Int32)) (h2 : p0 < p1) :
    MetFree l y0 (head1 (Jvm.Cond.code y0 Hg 3 (some .int) :: ws) QpcN) (fun a U => a = #[(.int p0), (.int p1), .null] ∧ Z.Warmed39 U.vm ∧ U.heap = h0) (fun _ _ _ _ _ => True) (fun _ U o U' => ∃ v L, o = .returned v ∧ own_Q (RpcN (fpcN_0 p0 p1)) (KpcN Z p0 p1  h0 n0 (fpcN_0 p0 p1)) v U'.heap L ∧ FrameEnd U o U' L QpcN.cells QpcN.slots) := by
  refine MetFree.of_bodySF (plainFor_of_name own_pn2) hisR ?_
  intro p e s m args below meth c s₁ Bd hml0 hP hK
  obtain ⟨rfl, hZ, hh⟩ := hP
  have hml : c.maxLocals = 3 := hml0
  have e0 : s₁.heap = h0 := by rw [← hh, Bd.state]; rfl
  exact own_pre (fun t k => castTop (ef_pcN m p0 p1) k) (gpcN_0 hw p0 p1  h1 h2 Bd hml hZ s₁ (Stand.of_body Bd) e0 SZ0 rfl)
abbrev QpcR : Room := { frames := 0, cells := 0, slots := 0, locals := 0 }
/-! body 16, pcR -/
def RpcR (t : Int32) : Option Value := some (.int t)
def KpcR (Z : State) (p0 p1 : Int32) (a2 : Addr) (h0 : Heap) (n0 : Nat) (t : Int32) (h : Heap) (L : List Loc) : Prop := own_K0 h0 h L
def fpcR_0 (p0 p1 : Int32) : Int32 := p0
set_option maxRecDepth 65536 in
set_option maxHeartbeats 40000000 in
theorem gpcR_0 (hw : HW aw Z) {h0 : Heap} {n0 : Nat} (p0 p1 : Int32) (a2 : Addr) (h1 : ¬ p0 < (0 : Int32)) (h2 : p0 < p1)
    (Bd : BodyLoose p l y0 (head1 (Jvm.Cond.code y0 Hg 3 (some .int) :: ws) QpcR) Hg 3 (some .int) e s m #[(.int p0), (.int p1), (.ref a2)] below meth c s₁) (hml : c.maxLocals = 3) (hZ : Z.Warmed39 s.vm) (T0 : State) {locs : List Loc} (X0 : Stand p l e QpcR s m #[(.int p0), (.int p1), (.ref a2)] below meth c T0 locs 0 0) (e0 : T0.heap = h0) (SZ0 : n0 ≤ h0.size) (NF0 : locs = []) :
    own_Go p e below s QpcR.cells QpcR.slots (RpcR (fpcR_0 p0 p1)) (KpcR Z p0 p1 a2 h0 n0 (fpcR_0 p0 p1)) (T0.setTop (mkF m 0 #[iv p0, iv p1, rv a2] [])) := by
  have hx := Bd.exec
  have hby := Bd.bytes
  have hown : s.vm.findClass "jdk/internal/util/Preconditions" = some m.cls := findClass_of_methodNamed Bd.named
  have hnm := (name_of_methodNamed Bd.named Bd.method).1
  unfold fpcR_0
  refine op T0 (mkF m 1 #[iv p0, iv p1, rv a2] [(.int p0)]) (fun _ k => XS.iloadN X0.here hx rfl (hb hby d16_0) rfl k) ?_
  have hc1 : ¬ (p0 < (0 : Int32)) := h1
  refine op T0 (mkF m 6 #[iv p0, iv p1, rv a2] [(.int p1), (.int p0)]) (fun _ k => XS.ifNo X0.here hx rfl (hb hby d16_1) rfl ((if0 _ _).trans (flt hc1).1) (XS.iloadN X0.here hx rfl (hb hby d16_4) rfl (XS.iloadN X0.here hx rfl (hb hby d16_5) rfl k))) ?_
  have hc6 : p0 < p1 := h2
  refine op T0 (mkF m 17 #[iv p0, iv p1, rv a2] [(.int p0)]) (fun _ k => XS.icmpYes X0.here hx rfl (pc0 := 6) (pc' := 16) rfl (hb hby d16_6) rfl (tlt hc6).1 (by decide) (by decide) (XS.iloadN X0.here hx rfl (hb hby d16_16) rfl k)) ?_
  exact own_ret (w := (.int p0)) X0 hx Bd.notSynchronized Bd.returns rfl (Or.inl ⟨rfl, by simp, _, rfl⟩) (hb hby d16_17) (by rw [e0]; exact ⟨NF0, rfl⟩) (by decide) (by decide)
theorem ef_pcR (m : MethodId) (p0 p1 : Int32) (a2 : Addr) : entryFrame m #[(.int p0), (.int p1), (.ref a2)] 3 = mkF m 0 #[iv p0, iv p1, rv a2] [] := by first | (simp [entryFrame, mkF, argsToLocals, Value.category]; done) | rfl
set_option maxRecDepth 65536 in
set_option maxHeartbeats 40000000 in
theorem rmpcR (l : Launch) (Z : State) (aw : Array Value) (hw : HW aw Z) (ws : List Jvm.Cond) (p0 p1 : Int32) (a2 : Addr) (h0 : Heap) (n0 : Nat) (SZ0 : n0 ≤ h0.size) (h1 : ¬ p0 < (0 : Int32)) (h2 : p0 < p1) :
    MetFree l y0 (head1 (Jvm.Cond.code y0 Hg 3 (some .int) :: ws) QpcR) (fun a U => a = #[(.int p0), (.int p1), (.ref a2)] ∧ Z.Warmed39 U.vm ∧ U.heap = h0) (fun _ _ _ _ _ => True) (fun _ U o U' => ∃ v L, o = .returned v ∧ own_Q (RpcR (fpcR_0 p0 p1)) (KpcR Z p0 p1 a2 h0 n0 (fpcR_0 p0 p1)) v U'.heap L ∧ FrameEnd U o U' L QpcR.cells QpcR.slots) := by
  refine MetFree.of_bodySF (plainFor_of_name own_pn2) hisR ?_
  intro p e s m args below meth c s₁ Bd hml0 hP hK
  obtain ⟨rfl, hZ, hh⟩ := hP
  have hml : c.maxLocals = 3 := hml0
  have e0 : s₁.heap = h0 := by rw [← hh, Bd.state]; rfl
  exact own_pre (fun t k => castTop (ef_pcR m p0 p1 a2) k) (gpcR_0 hw p0 p1 a2 h1 h2 Bd hml hZ s₁ (Stand.of_body Bd) e0 SZ0 rfl)
abbrev QciN : Room := { frames := 1, cells := 0, slots := 0, locals := 22 }
theorem own_pd0 : parseMethodDescriptor "(IILjava/util/function/BiFunction;)I" = some ⟨[.int, .int, (.object "java/util/function/BiFunction")], some .int⟩ := by decide +kernel
/-! body 15, ciN -/
theorem d15_0 : De Hh 0 (.iload_n 0) 1 := by decide +kernel
theorem d15_1 : De Hh 1 (.iload_n 1) 1 := by decide +kernel
theorem d15_2 : De Hh 2 (.getstatic 1053) 3 := by decide +kernel
theorem d15_5 : De Hh 5 (.invokestatic 1059) 3 := by decide +kernel
theorem d15_8 : De Hh 8 (.pop) 1 := by decide +kernel
theorem d15_9 : De Hh 9 (.return_) 1 := by decide +kernel
abbrev y1 : MethodName := ⟨cS, "checkIndex", "(II)V"⟩
theorem own_pn3 : plainName cS = true := by first | (simp [plainName, overriddenIn]; done) | decide +kernel
def RciN (t : Unit) : Option Value := none
def KciN (Z : State) (p0 p1 : Int32)  (h0 : Heap) (n0 : Nat) (t : Unit) (h : Heap) (L : List Loc) : Prop := own_K0 h0 h L
def fciN_0 (p0 p1 : Int32) : Unit := ()
set_option maxRecDepth 65536 in
set_option maxHeartbeats 40000000 in
theorem gciN_0 (hw : HW aw Z) {h0 : Heap} {n0 : Nat} (p0 p1 : Int32)  (h1 : ¬ p0 < (0 : Int32)) (h2 : p0 < p1)
    (Bd : BodyLoose p l y1 (head1 (Jvm.Cond.code y1 Hh 2 none :: ws) QciN) Hh 2 none e s m #[(.int p0), (.int p1)] below meth c s₁) (hml : c.maxLocals = 2) (hZ : Z.Warmed39 s.vm) (T0 : State) {locs : List Loc} (X0 : Stand p l e QciN s m #[(.int p0), (.int p1)] below meth c T0 locs 0 0) (e0 : T0.heap = h0) (SZ0 : n0 ≤ h0.size) (NF0 : locs = []) (S_SIOOBE_FORMATTER : Sta Z h0 "jdk/internal/util/Preconditions" "SIOOBE_FORMATTER" "Ljava/util/function/BiFunction;" .null) :
    own_Go p e below s QciN.cells QciN.slots (RciN (fciN_0 p0 p1)) (KciN Z p0 p1  h0 n0 (fciN_0 p0 p1)) (T0.setTop (mkF m 0 #[iv p0, iv p1] [])) := by
  have hx := Bd.exec
  have hby := Bd.bytes
  have hown : s.vm.findClass cS = some m.cls := findClass_of_methodNamed Bd.named
  have hnm := (name_of_methodNamed Bd.named Bd.method).1
  unfold fciN_0
  refine op T0 (mkF m 2 #[iv p0, iv p1] [(.int p1), (.int p0)]) (fun _ k => XS.iloadN X0.here hx rfl (hb hby d15_0) rfl (XS.iloadN X0.here hx rfl (hb hby d15_1) rfl k)) ?_
  obtain ⟨T1, X1, e1, st'⟩ := getS2 X0 hx hZ hown (host := "") (Or.inl (ow hw 74 rfl)) Via.refl e0 S_SIOOBE_FORMATTER (g := (mkF m 2 #[iv p0, iv p1] [(.int p1), (.int p0)])) rfl (hb hby d15_2)
  refine op T1 (mkF m 5 #[iv p0, iv p1] [.null, (.int p1), (.int p0)]) (fun _ k => st' _ k) ?_
  obtain ⟨_, _, ⟨T2, L2, k2, n2⟩, -, X2', ⟨Lc2, hQ2, l2, y2, z2⟩, st'⟩ := Jvm.LawKit.callS X1 hx (y := y0) hown (mvT hZ (ow hw 76 rfl)) (mvT hZ (ow hw 77 rfl)) (mvT hZ (ow hw 75 rfl)) (mvT hZ (ow hw 78 rfl)) (by decide) (backOf (W := 0) (rmpcN l Z aw hw [] p0 p1  h0 n0 SZ0 h1 h2) hZ (ow hw 78 rfl) (ow hw 75 rfl) (by decide) (by decide)) (g := (mkF m 5 #[iv p0, iv p1] [.null, (.int p1), (.int p0)])) rfl (by rw [hml]; rfl) (argsL := [(.int p0), (.int p1), .null]) (rest := []) (lenOf own_pd0 rfl) rfl (by show 2 * 0 + _ ≤ _; exact Nat.le_of_eq rfl) (hb hby d15_5) (fun _ _ => ⟨rfl, e1, (by decide : 0 + 0 ≤ _), (by decide : 0 + 0 ≤ _)⟩)
  dsimp only [Pt.U, Pt.locs, Pt.cells, Pt.slots] at X2' l2 y2 z2 st' hQ2
  subst l2 y2 z2
  obtain ⟨rfl, rfl, e2⟩ := hQ2
  have X2 : Stand p l e QciN s m #[(.int p0), (.int p1)] below meth c T2 _ 0 0 := own_locs X2'
  refine op T2 (mkF m 9 #[iv p0, iv p1] []) (fun _ k => st' _ (XS.pop X2.here hx rfl (hb hby d15_8) rfl rfl k)) ?_
  exact own_retV X2 hx Bd.notSynchronized Bd.returns (hb hby d15_9) (by rw [e2]; exact ⟨NF0, rfl⟩) (by decide) (by decide)
theorem ef_ciN (m : MethodId) (p0 p1 : Int32) : entryFrame m #[(.int p0), (.int p1)] 2 = mkF m 0 #[iv p0, iv p1] [] := by first | (simp [entryFrame, mkF, argsToLocals, Value.category]; done) | rfl
set_option maxRecDepth 65536 in
set_option maxHeartbeats 40000000 in
theorem rmciN (l : Launch) (Z : State) (aw : Array Value) (hw : HW aw Z) (ws : List Jvm.Cond) (p0 p1 : Int32)  (h0 : Heap) (n0 : Nat) (SZ0 : n0 ≤ h0.size) (S_SIOOBE_FORMATTER : Sta Z h0 "jdk/internal/util/Preconditions" "SIOOBE_FORMATTER" "Ljava/util/function/BiFunction;" .null) (h1 : ¬ p0 < (0 : Int32)) (h2 : p0 < p1) :
    MetFree l y1 (head1 (Jvm.Cond.code y1 Hh 2 none :: ws) QciN) (fun a U => a = #[(.int p0), (.int p1)] ∧ Z.Warmed39 U.vm ∧ U.heap = h0) (fun _ _ _ _ _ => True) (fun _ U o U' => ∃ v L, o = .returned v ∧ own_Q (RciN (fciN_0 p0 p1)) (KciN Z p0 p1  h0 n0 (fciN_0 p0 p1)) v U'.heap L ∧ FrameEnd U o U' L QciN.cells QciN.slots) := by
  refine MetFree.of_bodySF (plainFor_of_name own_pn3) hisR ?_
  intro p e s m args below meth c s₁ Bd hml0 hP hK
  obtain ⟨rfl, hZ, hh⟩ := hP
  have hml : c.maxLocals = 2 := hml0
  have e0 : s₁.heap = h0 := by rw [← hh, Bd.state]; rfl
  exact own_pre (fun t k => castTop (ef_ciN m p0 p1) k) (gciN_0 hw p0 p1  h1 h2 Bd hml hZ s₁ (Stand.of_body Bd) e0 SZ0 rfl S_SIOOBE_FORMATTER)
abbrev QciR : Room := { frames := 1, cells := 0, slots := 0, locals := 22 }
/-! body 15, ciR -/
def RciR (t : Unit) : Option Value := none
def KciR (Z : State) (p0 p1 : Int32) (sa : Addr) (h0 : Heap) (n0 : Nat) (t : Unit) (h : Heap) (L : List Loc) : Prop := own_K0 h0 h L
def fciR_0 (p0 p1 : Int32) : Unit := ()
set_option maxRecDepth 65536 in
set_option maxHeartbeats 40000000 in
theorem gciR_0 (hw : HW aw Z) {h0 : Heap} {n0 : Nat} (p0 p1 : Int32) (sa : Addr) (h1 : ¬ p0 < (0 : Int32)) (h2 : p0 < p1)
    (Bd : BodyLoose p l y1 (head1 (Jvm.Cond.code y1 Hh 2 none :: ws) QciR) Hh 2 none e s m #[(.int p0), (.int p1)] below meth c s₁) (hml : c.maxLocals = 2) (hZ : Z.Warmed39 s.vm) (T0 : State) {locs : List Loc} (X0 : Stand p l e QciR s m #[(.int p0), (.int p1)] below meth c T0 locs 0 0) (e0 : T0.heap = h0) (SZ0 : n0 ≤ h0.size) (NF0 : locs = []) (S_SIOOBE_FORMATTER : Sta Z h0 "jdk/internal/util/Preconditions" "SIOOBE_FORMATTER" "Ljava/util/function/BiFunction;" (.ref sa)) :
    own_Go p e below s QciR.cells QciR.slots (RciR (fciR_0 p0 p1)) (KciR Z p0 p1 sa h0 n0 (fciR_0 p0 p1)) (T0.setTop (mkF m 0 #[iv p0, iv p1] [])) := by
  have hx := Bd.exec
  have hby := Bd.bytes
  have hown : s.vm.findClass cS = some m.cls := findClass_of_methodNamed Bd.named
  have hnm := (name_of_methodNamed Bd.named Bd.method).1
  unfold fciR_0
  refine op T0 (mkF m 2 #[iv p0, iv p1] [(.int p1), (.int p0)]) (fun _ k => XS.iloadN X0.here hx rfl (hb hby d15_0) rfl (XS.iloadN X0.here hx rfl (hb hby d15_1) rfl k)) ?_
  obtain ⟨T1, X1, e1, st'⟩ := getS2 X0 hx hZ hown (host := "") (Or.inl (ow hw 74 rfl)) Via.refl e0 S_SIOOBE_FORMATTER (g := (mkF m 2 #[iv p0, iv p1] [(.int p1), (.int p0)])) rfl (hb hby d15_2)
  refine op T1 (mkF m 5 #[iv p0, iv p1] [(.ref sa), (.int p1), (.int p0)]) (fun _ k => st' _ k) ?_
  obtain ⟨_, _, ⟨T2, L2, k2, n2⟩, -, X2', ⟨Lc2, hQ2, l2, y2, z2⟩, st'⟩ := Jvm.LawKit.callS X1 hx (y := y0) hown (mvT hZ (ow hw 76 rfl)) (mvT hZ (ow hw 77 rfl)) (mvT hZ (ow hw 75 rfl)) (mvT hZ (ow hw 78 rfl)) (by decide) (backOf (W := 0) (rmpcR l Z aw hw [] p0 p1 sa h0 n0 SZ0 h1 h2) hZ (ow hw 78 rfl) (ow hw 75 rfl) (by decide) (by decide)) (g := (mkF m 5 #[iv p0, iv p1] [(.ref sa), (.int p1), (.int p0)])) rfl (by rw [hml]; rfl) (argsL := [(.int p0), (.int p1), (.ref sa)]) (rest := []) (lenOf own_pd0 rfl) rfl (by show 2 * 0 + _ ≤ _; exact Nat.le_of_eq rfl) (hb hby d15_5) (fun _ _ => ⟨rfl, e1, (by decide : 0 + 0 ≤ _), (by decide : 0 + 0 ≤ _)⟩)
  dsimp only [Pt.U, Pt.locs, Pt.cells, Pt.slots] at X2' l2 y2 z2 st' hQ2
  subst l2 y2 z2
  obtain ⟨rfl, rfl, e2⟩ := hQ2
  have X2 : Stand p l e QciR s m #[(.int p0), (.int p1)] below meth c T2 _ 0 0 := own_locs X2'
  refine op T2 (mkF m 9 #[iv p0, iv p1] []) (fun _ k => st' _ (XS.pop X2.here hx rfl (hb hby d15_8) rfl rfl k)) ?_
  exact own_retV X2 hx Bd.notSynchronized Bd.returns (hb hby d15_9) (by rw [e2]; exact ⟨NF0, rfl⟩) (by decide) (by decide)
theorem ef_ciR (m : MethodId) (p0 p1 : Int32) : entryFrame m #[(.int p0), (.int p1)] 2 = mkF m 0 #[iv p0, iv p1] [] := by first | (simp [entryFrame, mkF, argsToLocals, Value.category]; done) | rfl
set_option maxRecDepth 65536 in
set_option maxHeartbeats 40000000 in
theorem rmciR (l : Launch) (Z : State) (aw : Array Value) (hw : HW aw Z) (ws : List Jvm.Cond) (p0 p1 : Int32) (sa : Addr) (h0 : Heap) (n0 : Nat) (SZ0 : n0 ≤ h0.size) (S_SIOOBE_FORMATTER : Sta Z h0 "jdk/internal/util/Preconditions" "SIOOBE_FORMATTER" "Ljava/util/function/BiFunction;" (.ref sa)) (h1 : ¬ p0 < (0 : Int32)) (h2 : p0 < p1) :
    MetFree l y1 (head1 (Jvm.Cond.code y1 Hh 2 none :: ws) QciR) (fun a U => a = #[(.int p0), (.int p1)] ∧ Z.Warmed39 U.vm ∧ U.heap = h0) (fun _ _ _ _ _ => True) (fun _ U o U' => ∃ v L, o = .returned v ∧ own_Q (RciR (fciR_0 p0 p1)) (KciR Z p0 p1 sa h0 n0 (fciR_0 p0 p1)) v U'.heap L ∧ FrameEnd U o U' L QciR.cells QciR.slots) := by
  refine MetFree.of_bodySF (plainFor_of_name own_pn3) hisR ?_
  intro p e s m args below meth c s₁ Bd hml0 hP hK
  obtain ⟨rfl, hZ, hh⟩ := hP
  have hml : c.maxLocals = 2 := hml0
  have e0 : s₁.heap = h0 := by rw [← hh, Bd.state]; rfl
  exact own_pre (fun t k => castTop (ef_ciR m p0 p1) k) (gciR_0 hw p0 p1 sa h1 h2 Bd hml hZ s₁ (Stand.of_body Bd) e0 SZ0 rfl S_SIOOBE_FORMATTER)
set_option maxRecDepth 65536 in
set_option maxHeartbeats 40000000 in
theorem rmci (l : Launch) (Z : State) (aw : Array Value) (hw : HW aw Z) (ws : List Jvm.Cond) (p0 p1 : Int32)  (h0 : Heap) (n0 : Nat) (SZ0 : n0 ≤ h0.size) (J0 : own_J Z h0) (h1 : ¬ p0 < (0 : Int32)) (h2 : p0 < p1) :
    MetFree l y1 (head1 (Jvm.Cond.code y1 Hh 2 none :: ws) QciR) (fun a U => a = #[(.int p0), (.int p1)] ∧ Z.Warmed39 U.vm ∧ U.heap = h0) (fun _ _ _ _ _ => True) (fun _ U o U' => ∃ v L, o = .returned v ∧ own_Q none (own_K0 h0) v U'.heap L ∧ FrameEnd U o U' L QciR.cells QciR.slots) := by
  obtain ⟨cs, sf, -, S2, -, -, -, -, r⟩ := J0
  rcases ref_cases r with rfl | ⟨sa, rfl⟩
  · exact own_met (rmciN l Z aw hw ws p0 p1 h0 n0 SZ0 S2 h1 h2) (fun _ _ k => k)
  · exact own_met (rmciR l Z aw hw ws p0 p1 sa h0 n0 SZ0 S2 h1 h2) (fun _ _ k => k)
abbrev Qul : Room := { frames := 0, cells := 0, slots := 0, locals := 0 }
/-! body 31, ul -/
theorem d31_0 : De Ht 0 (.aload_n 0) 1 := by decide +kernel
theorem d31_1 : De Ht 1 (.arraylength) 1 := by decide +kernel
theorem d31_2 : De Ht 2 (.iconst 1) 1 := by decide +kernel
theorem d31_3 : De Ht 3 (.ishr) 1 := by decide +kernel
theorem d31_4 : De Ht 4 (.ireturn) 1 := by decide +kernel
abbrev y2 : MethodName := ⟨cU, "length", "([B)I"⟩
theorem own_pn4 : plainName cU = true := by first | (simp [plainName, overriddenIn]; done) | decide +kernel
def Rul (t : Int32) : Option Value := some (.int t)
def Kul (Z : State) (zz : Int32) (a0 : Addr) (h0 : Heap) (n0 : Nat) (t : Int32) (h : Heap) (L : List Loc) : Prop := own_K0 h0 h L
def ful_0 (zz : Int32) : Int32 := (zz >>> ((1 : Int32) &&& 31))
set_option maxRecDepth 65536 in
set_option maxHeartbeats 40000000 in
theorem gul_0 (hw : HW aw Z) {h0 : Heap} {n0 : Nat} (zz : Int32) (a0 : Addr)
    (Bd : BodyLoose p l y2 (head1 (Jvm.Cond.code y2 Ht 1 (some .int) :: ws) Qul) Ht 1 (some .int) e s m #[(.ref a0)] below meth c s₁) (hml : c.maxLocals = 1) (hZ : Z.Warmed39 s.vm) (T0 : State) {locs : List Loc} (X0 : Stand p l e Qul s m #[(.ref a0)] below meth c T0 locs 0 0) (e0 : T0.heap = h0) (SZ0 : n0 ≤ h0.size) (NF0 : locs = []) (G0 : own_Be Z h0 a0 zz []) :
    own_Go p e below s Qul.cells Qul.slots (Rul (ful_0 zz)) (Kul Z zz a0 h0 n0 (ful_0 zz)) (T0.setTop (mkF m 0 #[rv a0] [])) := by
  have hx := Bd.exec
  have hby := Bd.bytes
  have hown : s.vm.findClass cU = some m.cls := findClass_of_methodNamed Bd.named
  have hnm := (name_of_methodNamed Bd.named Bd.method).1
  unfold ful_0
  refine op T0 (mkF m 1 #[rv a0] [(.ref a0)]) (fun _ k => XS.aloadN X0.here hx rfl (hb hby d31_0) rfl rfl k) ?_
  obtain ⟨k1, vs1, ⟨cl1, Ar1, q1, S1, N1, H1, G1⟩, hl1⟩ := id G0
  refine op T0 (mkF m 2 #[rv a0] [(.int zz)]) (fun t k => X0.arraylength hx (by rw [e0]; exact Ar1.1) (State.isArrayOf_alike hZ.alike Ar1.2.1) (g := (mkF m 1 #[rv a0] [(.ref a0)])) rfl rfl (hb hby d31_1) t (by rw [len_of S1 N1]; exact k)) ?_
  refine op T0 (mkF m 4 #[rv a0] [(.int (zz >>> ((1 : Int32) &&& 31)))]) (fun _ k => XS.iconst X0.here hx rfl (hb hby d31_2) (XS.ishr X0.here hx rfl (hb hby d31_3) rfl k)) ?_
  exact own_ret (w := (.int (zz >>> ((1 : Int32) &&& 31)))) X0 hx Bd.notSynchronized Bd.returns rfl (Or.inl ⟨rfl, by simp, _, rfl⟩) (hb hby d31_4) (by rw [e0]; exact ⟨NF0, rfl⟩) (by decide) (by decide)
theorem ef_ul (m : MethodId) (a0 : Addr) : entryFrame m #[(.ref a0)] 1 = mkF m 0 #[rv a0] [] := by first | (simp [entryFrame, mkF, argsToLocals, Value.category]; done) | rfl
set_option maxRecDepth 65536 in
set_option maxHeartbeats 40000000 in
theorem rmul (l : Launch) (Z : State) (aw : Array Value) (hw : HW aw Z) (ws : List Jvm.Cond) (zz : Int32) (a0 : Addr) (h0 : Heap) (n0 : Nat) (SZ0 : n0 ≤ h0.size) (G0 : own_Be Z h0 a0 zz []) :
    MetFree l y2 (head1 (Jvm.Cond.code y2 Ht 1 (some .int) :: ws) Qul) (fun a U => a = #[(.ref a0)] ∧ Z.Warmed39 U.vm ∧ U.heap = h0) (fun _ _ _ _ _ => True) (fun _ U o U' => ∃ v L, o = .returned v ∧ own_Q (Rul (ful_0 zz)) (Kul Z zz a0 h0 n0 (ful_0 zz)) v U'.heap L ∧ FrameEnd U o U' L Qul.cells Qul.slots) := by
  refine MetFree.of_bodySF (plainFor_of_name own_pn4) hisR ?_
  intro p e s m args below meth c s₁ Bd hml0 hP hK
  obtain ⟨rfl, hZ, hh⟩ := hP
  have hml : c.maxLocals = 1 := hml0
  have e0 : s₁.heap = h0 := by rw [← hh, Bd.state]; rfl
  exact own_pre (fun t k => castTop (ef_ul m a0) k) (gul_0 hw zz a0 Bd hml hZ s₁ (Stand.of_body Bd) e0 SZ0 rfl G0)
abbrev Qgc : Room := { frames := 0, cells := 0, slots := 0, locals := 0 }
/-! body 28, gc -/
theorem d28_0 : De Gw 0 (.getstatic 44) 3 := by decide +kernel
theorem d28_3 : De Gw 3 (.ifCond .ne 25) 3 := by decide +kernel
theorem d28_28 : De Gw 28 (.iload_n 1) 1 := by decide +kernel
theorem d28_29 : De Gw 29 (.iconst 1) 1 := by decide +kernel
theorem d28_30 : De Gw 30 (.ishl) 1 := by decide +kernel
theorem d28_31 : De Gw 31 (.istore_n 1) 1 := by decide +kernel
theorem d28_32 : De Gw 32 (.aload_n 0) 1 := by decide +kernel
theorem d28_33 : De Gw 33 (.iload_n 1) 1 := by decide +kernel
theorem d28_34 : De Gw 34 (.iinc 1 1) 3 := by decide +kernel
theorem d28_37 : De Gw 37 (.baload) 1 := by decide +kernel
theorem d28_38 : De Gw 38 (.sipush 255) 3 := by decide +kernel
theorem d28_41 : De Gw 41 (.iand) 1 := by decide +kernel
theorem d28_42 : De Gw 42 (.getstatic 59) 3 := by decide +kernel
theorem d28_45 : De Gw 45 (.ishl) 1 := by decide +kernel
theorem d28_46 : De Gw 46 (.aload_n 0) 1 := by decide +kernel
theorem d28_47 : De Gw 47 (.iload_n 1) 1 := by decide +kernel
theorem d28_48 : De Gw 48 (.baload) 1 := by decide +kernel
theorem d28_49 : De Gw 49 (.sipush 255) 3 := by decide +kernel
theorem d28_52 : De Gw 52 (.iand) 1 := by decide +kernel
theorem d28_53 : De Gw 53 (.getstatic 63) 3 := by decide +kernel
theorem d28_56 : De Gw 56 (.ishl) 1 := by decide +kernel
theorem d28_57 : De Gw 57 (.ior) 1 := by decide +kernel
theorem d28_58 : De Gw 58 (.i2c) 1 := by decide +kernel
theorem d28_59 : De Gw 59 (.ireturn) 1 := by decide +kernel
abbrev y3 : MethodName := ⟨cU, "getChar", "([BI)C"⟩
def Rgc (t : Int32) : Option Value := some (.int t)
def Kgc (Z : State) (p1 zz b1 b2 : Int32) (a0 : Addr) (h0 : Heap) (n0 : Nat) (t : Int32) (h : Heap) (L : List Loc) : Prop := own_K0 h0 h L
def fgc_0 (p1 zz b1 b2 : Int32) : Int32 := (nar .char ((((b1 &&& (255 : Int32)) <<< ((0 : Int32) &&& 31)) ||| ((b2 &&& (255 : Int32)) <<< ((8 : Int32) &&& 31))).toUInt32.toUInt16.toUInt32.toInt32))
set_option maxRecDepth 65536 in
set_option maxHeartbeats 40000000 in
theorem ggc_0 (hw : HW aw Z) {h0 : Heap} {n0 : Nat} (p1 zz b1 b2 : Int32) (a0 : Addr) (h1 : ¬ (p1 <<< ((1 : Int32) &&& 31)) < (0 : Int32)) (h2 : (p1 <<< ((1 : Int32) &&& 31)) < zz) (h3 : ¬ ((p1 <<< ((1 : Int32) &&& 31)) + (1 : Int32)) < (0 : Int32)) (h4 : ((p1 <<< ((1 : Int32) &&& 31)) + (1 : Int32)) < zz)
    (Bd : BodyLoose p l y3 (head1 (Jvm.Cond.code y3 Gw 2 (some .char) :: ws) Qgc) Gw 2 (some .char) e s m #[(.ref a0), (.int p1)] below meth c s₁) (hml : c.maxLocals = 2) (hZ : Z.Warmed39 s.vm) (T0 : State) {locs : List Loc} (X0 : Stand p l e Qgc s m #[(.ref a0), (.int p1)] below meth c T0 locs 0 0) (e0 : T0.heap = h0) (SZ0 : n0 ≤ h0.size) (NF0 : locs = []) (G0 : own_Be Z h0 a0 zz [((p1 <<< ((1 : Int32) &&& 31)), b1), (((p1 <<< ((1 : Int32) &&& 31)) + (1 : Int32)), b2)]) (J0 : own_J Z h0) :
    own_Go p e below s Qgc.cells Qgc.slots (Rgc (fgc_0 p1 zz b1 b2)) (Kgc Z p1 zz b1 b2 a0 h0 n0 (fgc_0 p1 zz b1 b2)) (T0.setTop (mkF m 0 #[rv a0, iv p1] [])) := by
  have hx := Bd.exec
  have hby := Bd.bytes
  have hown : s.vm.findClass cU = some m.cls := findClass_of_methodNamed Bd.named
  have hnm := (name_of_methodNamed Bd.named Bd.method).1
  unfold fgc_0
  obtain ⟨cs, sf, js⟩ := id J0
  obtain ⟨T1, X1, e1, st'⟩ := getS2 X0 hx hZ hown (host := "") (Or.inl (ow hw 120 rfl)) Via.refl e0 js.2.2.1 (g := (mkF m 0 #[rv a0, iv p1] [])) rfl (hb hby d28_0)
  refine op T1 (mkF m 3 #[rv a0, iv p1] [(.int 1)]) (fun _ k => st' _ k) ?_
  have hc3 : ¬ ((1 : Int32) = (0 : Int32)) := (show ¬ (1 : Int32) = 0 by decide)
  refine op T1 (mkF m 37 #[rv a0, iv ((p1 <<< ((1 : Int32) &&& 31)) + (1 : Int32))] [(.int (p1 <<< ((1 : Int32) &&& 31))), (.ref a0)]) (fun _ k => XS.ifYes X1.here hx rfl (pc0 := 3) (pc' := 28) rfl (hb hby d28_3) rfl ((if0 _ _).trans (feq hc3).2) (by decide) (by decide) (XS.iloadN X1.here hx rfl (hb hby d28_28) rfl (XS.iconst X1.here hx rfl (hb hby d28_29) (XS.ishl X1.here hx rfl (hb hby d28_30) rfl (XS.istoreN X1.here hx rfl (hb hby d28_31) rfl (l' := #[rv a0, iv (p1 <<< ((1 : Int32) &&& 31))]) rfl (XS.aloadN X1.here hx rfl (hb hby d28_32) rfl rfl (XS.iloadN X1.here hx rfl (hb hby d28_33) rfl (XS.iinc X1.here hx rfl (hb hby d28_34) rfl (l' := #[rv a0, iv ((p1 <<< ((1 : Int32) &&& 31)) + (1 : Int32))]) rfl k)))))))) ?_
  obtain ⟨k2, vs2, ⟨cl2, Ar2, q2, S2, N2, H2, G2⟩, hl2⟩ := id G0
  have hin2 : ¬ ((p1 <<< ((1 : Int32) &&& 31)) < 0 ∨ cl2.slots.size ≤ ((p1 <<< ((1 : Int32) &&& 31))).toNatClampNeg) := inb_of S2 ⟨h1, h2⟩
  refine op T1 (mkF m 38 #[rv a0, iv ((p1 <<< ((1 : Int32) &&& 31)) + (1 : Int32))] [(.int b1)]) (fun t k => X1.baloadBytes hx (j := (p1 <<< ((1 : Int32) &&& 31))) (v := (.int b1)) (by rw [e1]; exact Ar2.1) (State.isArrayOf_alike hZ.alike Ar2.2.1) Ar2.2.2 hin2 (H2.at hin2 (hl2 _ (List.mem_of_getElem? (i := 0) rfl))) (g := (mkF m 37 #[rv a0, iv ((p1 <<< ((1 : Int32) &&& 31)) + (1 : Int32))] [(.int (p1 <<< ((1 : Int32) &&& 31))), (.ref a0)])) rfl rfl (hb hby d28_37) t k) ?_
  refine op T1 (mkF m 42 #[rv a0, iv ((p1 <<< ((1 : Int32) &&& 31)) + (1 : Int32))] [(.int (b1 &&& (255 : Int32)))]) (fun _ k => XS.sipush X1.here hx rfl (hb hby d28_38) (XS.iand X1.here hx rfl (hb hby d28_41) rfl k)) ?_
  obtain ⟨cs, sf, js⟩ := id J0
  obtain ⟨T3, X3, e3, st'⟩ := getS2 X1 hx hZ hown (host := "") (Or.inl (ow hw 121 rfl)) Via.refl e1 js.2.2.2.1 (g := (mkF m 42 #[rv a0, iv ((p1 <<< ((1 : Int32) &&& 31)) + (1 : Int32))] [(.int (b1 &&& (255 : Int32)))])) rfl (hb hby d28_42)
  refine op T3 (mkF m 48 #[rv a0, iv ((p1 <<< ((1 : Int32) &&& 31)) + (1 : Int32))] [(.int ((p1 <<< ((1 : Int32) &&& 31)) + (1 : Int32))), (.ref a0), (.int ((b1 &&& (255 : Int32)) <<< ((0 : Int32) &&& 31)))]) (fun _ k => st' _ (XS.ishl X3.here hx rfl (hb hby d28_45) rfl (XS.aloadN X3.here hx rfl (hb hby d28_46) rfl rfl (XS.iloadN X3.here hx rfl (hb hby d28_47) rfl k)))) ?_
  obtain ⟨k4, vs4, ⟨cl4, Ar4, q4, S4, N4, H4, G4⟩, hl4⟩ := id G0
  have hin4 : ¬ (((p1 <<< ((1 : Int32) &&& 31)) + (1 : Int32)) < 0 ∨ cl4.slots.size ≤ (((p1 <<< ((1 : Int32) &&& 31)) + (1 : Int32))).toNatClampNeg) := inb_of S4 ⟨h3, h4⟩
  refine op T3 (mkF m 49 #[rv a0, iv ((p1 <<< ((1 : Int32) &&& 31)) + (1 : Int32))] [(.int b2), (.int ((b1 &&& (255 : Int32)) <<< ((0 : Int32) &&& 31)))]) (fun t k => X3.baloadBytes hx (j := ((p1 <<< ((1 : Int32) &&& 31)) + (1 : Int32))) (v := (.int b2)) (by rw [e3]; exact Ar4.1) (State.isArrayOf_alike hZ.alike Ar4.2.1) Ar4.2.2 hin4 (H4.at hin4 (hl4 _ (List.mem_of_getElem? (i := 1) rfl))) (g := (mkF m 48 #[rv a0, iv ((p1 <<< ((1 : Int32) &&& 31)) + (1 : Int32))] [(.int ((p1 <<< ((1 : Int32) &&& 31)) + (1 : Int32))), (.ref a0), (.int ((b1 &&& (255 : Int32)) <<< ((0 : Int32) &&& 31)))])) rfl rfl (hb hby d28_48) t k) ?_
  refine op T3 (mkF m 53 #[rv a0, iv ((p1 <<< ((1 : Int32) &&& 31)) + (1 : Int32))] [(.int (b2 &&& (255 : Int32))), (.int ((b1 &&& (255 : Int32)) <<< ((0 : Int32) &&& 31)))]) (fun _ k => XS.sipush X3.here hx rfl (hb hby d28_49) (XS.iand X3.here hx rfl (hb hby d28_52) rfl k)) ?_
  obtain ⟨cs, sf, js⟩ := id J0
  obtain ⟨T5, X5, e5, st'⟩ := getS2 X3 hx hZ hown (host := "") (Or.inl (ow hw 122 rfl)) Via.refl e3 js.2.2.2.2.1 (g := (mkF m 53 #[rv a0, iv ((p1 <<< ((1 : Int32) &&& 31)) + (1 : Int32))] [(.int (b2 &&& (255 : Int32))), (.int ((b1 &&& (255 : Int32)) <<< ((0 : Int32) &&& 31)))])) rfl (hb hby d28_53)
  refine op T5 (mkF m 59 #[rv a0, iv ((p1 <<< ((1 : Int32) &&& 31)) + (1 : Int32))] [(.int ((((b1 &&& (255 : Int32)) <<< ((0 : Int32) &&& 31)) ||| ((b2 &&& (255 : Int32)) <<< ((8 : Int32) &&& 31))).toUInt32.toUInt16.toUInt32.toInt32))]) (fun _ k => st' _ (XS.ishl X5.here hx rfl (hb hby d28_56) rfl (XS.ior X5.here hx rfl (hb hby d28_57) rfl (XS.i2c X5.here hx rfl (hb hby d28_58) rfl k)))) ?_
  exact own_retN X5 hx Bd.notSynchronized (t := .char) Bd.returns (by simp) (hb hby d28_59) (by rw [e5]; exact ⟨NF0, rfl⟩) (by decide) (by decide)
theorem ef_gc (m : MethodId) (a0 : Addr) (p1 : Int32) : entryFrame m #[(.ref a0), (.int p1)] 2 = mkF m 0 #[rv a0, iv p1] [] := by first | (simp [entryFrame, mkF, argsToLocals, Value.category]; done) | rfl
set_option maxRecDepth 65536 in
set_option maxHeartbeats 40000000 in
theorem rmgc (l : Launch) (Z : State) (aw : Array Value) (hw : HW aw Z) (ws : List Jvm.Cond) (p1 zz b1 b2 : Int32) (a0 : Addr) (h0 : Heap) (n0 : Nat) (SZ0 : n0 ≤ h0.size) (G0 : own_Be Z h0 a0 zz [((p1 <<< ((1 : Int32) &&& 31)), b1), (((p1 <<< ((1 : Int32) &&& 31)) + (1 : Int32)), b2)]) (J0 : own_J Z h0) (h1 : ¬ (p1 <<< ((1 : Int32) &&& 31)) < (0 : Int32)) (h2 : (p1 <<< ((1 : Int32) &&& 31)) < zz) (h3 : ¬ ((p1 <<< ((1 : Int32) &&& 31)) + (1 : Int32)) < (0 : Int32)) (h4 : ((p1 <<< ((1 : Int32) &&& 31)) + (1 : Int32)) < zz) :
    MetFree l y3 (head1 (Jvm.Cond.code y3 Gw 2 (some .char) :: ws) Qgc) (fun a U => a = #[(.ref a0), (.int p1)] ∧ Z.Warmed39 U.vm ∧ U.heap = h0) (fun _ _ _ _ _ => True) (fun _ U o U' => ∃ v L, o = .returned v ∧ own_Q (Rgc (fgc_0 p1 zz b1 b2)) (Kgc Z p1 zz b1 b2 a0 h0 n0 (fgc_0 p1 zz b1 b2)) v U'.heap L ∧ FrameEnd U o U' L Qgc.cells Qgc.slots) := by
  refine MetFree.of_bodySF (plainFor_of_name own_pn4) hisR ?_
  intro p e s m args below meth c s₁ Bd hml0 hP hK
  obtain ⟨rfl, hZ, hh⟩ := hP
  have hml : c.maxLocals = 2 := hml0
  have e0 : s₁.heap = h0 := by rw [← hh, Bd.state]; rfl
  exact own_pre (fun t k => castTop (ef_gc m a0 p1) k) (ggc_0 hw p1 zz b1 b2 a0 h1 h2 h3 h4 Bd hml hZ s₁ (Stand.of_body Bd) e0 SZ0 rfl G0 J0)
abbrev Quc : Room := { frames := 2, cells := 0, slots := 0, locals := 43 }
theorem own_pd1 : parseMethodDescriptor "([B)I" = some ⟨[(.array .byte)], some .int⟩ := by decide +kernel
theorem own_pd2 : parseMethodDescriptor "(II)V" = some ⟨[.int, .int], none⟩ := by decide +kernel
/-! body 30, uc -/
theorem d30_0 : De Hu 0 (.iload_n 0) 1 := by decide +kernel
theorem d30_1 : De Hu 1 (.aload_n 1) 1 := by decide +kernel
theorem d30_2 : De Hu 2 (.invokestatic 48) 3 := by decide +kernel
theorem d30_5 : De Hu 5 (.invokestatic 414) 3 := by decide +kernel
theorem d30_8 : De Hu 8 (.return_) 1 := by decide +kernel
abbrev y4 : MethodName := ⟨cU, "checkIndex", "(I[B)V"⟩
def Ruc (t : Unit) : Option Value := none
def Kuc (Z : State) (p0 zz : Int32) (a1 : Addr) (h0 : Heap) (n0 : Nat) (t : Unit) (h : Heap) (L : List Loc) : Prop := own_K0 h0 h L
def fuc_0 (p0 zz : Int32) : Unit := ()
set_option maxRecDepth 65536 in
set_option maxHeartbeats 40000000 in
theorem guc_0 (hw : HW aw Z) {h0 : Heap} {n0 : Nat} (p0 zz : Int32) (a1 : Addr) (g1 : ¬ p0 < (0 : Int32)) (g2 : p0 < (ful_0 zz))
    (Bd : BodyLoose p l y4 (head1 (Jvm.Cond.code y4 Hu 2 none :: ws) Quc) Hu 2 none e s m #[(.int p0), (.ref a1)] below meth c s₁) (hml : c.maxLocals = 2) (hZ : Z.Warmed39 s.vm) (T0 : State) {locs : List Loc} (X0 : Stand p l e Quc s m #[(.int p0), (.ref a1)] below meth c T0 locs 0 0) (e0 : T0.heap = h0) (SZ0 : n0 ≤ h0.size) (NF0 : locs = []) (Ge : own_Be Z h0 a1 zz []) (J0 : own_J Z h0) :
    own_Go p e below s Quc.cells Quc.slots (Ruc (fuc_0 p0 zz)) (Kuc Z p0 zz a1 h0 n0 (fuc_0 p0 zz)) (T0.setTop (mkF m 0 #[iv p0, rv a1] [])) := by
  have hx := Bd.exec
  have hby := Bd.bytes
  have hown : s.vm.findClass cU = some m.cls := findClass_of_methodNamed Bd.named
  have hnm := (name_of_methodNamed Bd.named Bd.method).1
  unfold fuc_0
  refine op T0 (mkF m 2 #[iv p0, rv a1] [(.ref a1), (.int p0)]) (fun _ k => XS.iloadN X0.here hx rfl (hb hby d30_0) rfl (XS.aloadN X0.here hx rfl (hb hby d30_1) rfl rfl k)) ?_
  obtain ⟨_, _, ⟨T1, L1, k1, n1⟩, -, X1', ⟨Lc1, hQ1, l1, y1, z1⟩, st'⟩ := Jvm.LawKit.callS X0 hx (y := y2) hown (mvT hZ (ow hw 132 rfl)) (mvT hZ (ow hw 133 rfl)) (mvT hZ (ow hw 35 rfl)) (mvT hZ (ow hw 134 rfl)) (by decide) (backOf (W := 1) (rmul l Z aw hw [] zz a1 h0 n0 SZ0 Ge) hZ (ow hw 134 rfl) (ow hw 35 rfl) (by decide) (by decide)) (g := (mkF m 2 #[iv p0, rv a1] [(.ref a1), (.int p0)])) rfl (by rw [hml]; rfl) (argsL := [(.ref a1)]) (rest := [(.int p0)]) (lenOf own_pd1 rfl) rfl (by show 2 * 0 + _ ≤ _; exact Nat.le_of_eq rfl) (hb hby d30_2) (fun _ _ => ⟨rfl, e0, (by decide : 0 + 0 ≤ _), (by decide : 0 + 0 ≤ _)⟩)
  dsimp only [Pt.U, Pt.locs, Pt.cells, Pt.slots] at X1' l1 y1 z1 st' hQ1
  subst l1 y1 z1
  obtain ⟨rfl, rfl, e1⟩ := hQ1
  have X1 : Stand p l e Quc s m #[(.int p0), (.ref a1)] below meth c T1 _ 0 0 := own_locs X1'
  refine op T1 (mkF m 5 #[iv p0, rv a1] [(.int (ful_0 zz)), (.int p0)]) (fun _ k => st' _ k) ?_
  obtain ⟨_, _, ⟨T2, L2, k2, n2⟩, -, X2', ⟨Lc2, hQ2, l2, y2, z2⟩, st'⟩ := Jvm.LawKit.callS X1 hx (y := y1) hown (mvT hZ (ow hw 135 rfl)) (mvT hZ (ow hw 72 rfl)) (mvT hZ (ow hw 4 rfl)) (mvT hZ (ow hw 73 rfl)) (by decide) (backOf (W := 0) (rmci l Z aw hw [] p0 (ful_0 zz)  h0 n0 SZ0 J0 g1 g2) hZ (ow hw 73 rfl) (ow hw 4 rfl) (by decide) (by decide)) (g := (mkF m 5 #[iv p0, rv a1] [(.int (ful_0 zz)), (.int p0)])) rfl (by rw [hml]; rfl) (argsL := [(.int p0), (.int (ful_0 zz))]) (rest := []) (lenOf own_pd2 rfl) rfl (by show 2 * 0 + _ ≤ _; exact Nat.le_of_eq rfl) (hb hby d30_5) (fun _ _ => ⟨rfl, e1, (by decide : 0 + 0 ≤ _), (by decide : 0 + 0 ≤ _)⟩)
  dsimp only [Pt.U, Pt.locs, Pt.cells, Pt.slots] at X2' l2 y2 z2 st' hQ2
  subst l2 y2 z2
  obtain ⟨rfl, rfl, e2⟩ := hQ2
  have X2 : Stand p l e Quc s m #[(.int p0), (.ref a1)] below meth c T2 _ 0 0 := own_locs X2'
  refine op T2 (mkF m 8 #[iv p0, rv a1] []) (fun _ k => st' _ k) ?_
  exact own_retV X2 hx Bd.notSynchronized Bd.returns (hb hby d30_8) (by rw [e2]; exact ⟨NF0, rfl⟩) (by decide) (by decide)
theorem ef_uc (m : MethodId) (p0 : Int32) (a1 : Addr) : entryFrame m #[(.int p0), (.ref a1)] 2 = mkF m 0 #[iv p0, rv a1] [] := by first | (simp [entryFrame, mkF, argsToLocals, Value.category]; done) | rfl
set_option maxRecDepth 65536 in
set_option maxHeartbeats 40000000 in
theorem rmuc (l : Launch) (Z : State) (aw : Array Value) (hw : HW aw Z) (ws : List Jvm.Cond) (p0 zz : Int32) (a1 : Addr) (h0 : Heap) (n0 : Nat) (SZ0 : n0 ≤ h0.size) (Ge : own_Be Z h0 a1 zz []) (J0 : own_J Z h0) (g1 : ¬ p0 < (0 : Int32)) (g2 : p0 < (ful_0 zz)) :
    MetFree l y4 (head1 (Jvm.Cond.code y4 Hu 2 none :: ws) Quc) (fun a U => a = #[(.int p0), (.ref a1)] ∧ Z.Warmed39 U.vm ∧ U.heap = h0) (fun _ _ _ _ _ => True) (fun _ U o U' => ∃ v L, o = .returned v ∧ own_Q (Ruc (fuc_0 p0 zz)) (Kuc Z p0 zz a1 h0 n0 (fuc_0 p0 zz)) v U'.heap L ∧ FrameEnd U o U' L Quc.cells Quc.slots) := by
  refine MetFree.of_bodySF (plainFor_of_name own_pn4) hisR ?_
  intro p e s m args below meth c s₁ Bd hml0 hP hK
  obtain ⟨rfl, hZ, hh⟩ := hP
  have hml : c.maxLocals = 2 := hml0
  have e0 : s₁.heap = h0 := by rw [← hh, Bd.state]; rfl
  exact own_pre (fun t k => castTop (ef_uc m p0 a1) k) (guc_0 hw p0 zz a1 g1 g2 Bd hml hZ s₁ (Stand.of_body Bd) e0 SZ0 rfl Ge J0)
abbrev Quch : Room := { frames := 3, cells := 0, slots := 0, locals := 64 }
theorem own_pd3 : parseMethodDescriptor "(I[B)V" = some ⟨[.int, (.array .byte)], none⟩ := by decide +kernel
theorem own_pd4 : parseMethodDescriptor "([BI)C" = some ⟨[(.array .byte), .int], some .char⟩ := by decide +kernel
/-! body 29, uch -/
theorem d29_0 : De Hr 0 (.iload_n 1) 1 := by decide +kernel
theorem d29_1 : De Hr 1 (.aload_n 0) 1 := by decide +kernel
theorem d29_2 : De Hr 2 (.invokestatic 67) 3 := by decide +kernel
theorem d29_5 : De Hr 5 (.aload_n 0) 1 := by decide +kernel
theorem d29_6 : De Hr 6 (.iload_n 1) 1 := by decide +kernel
theorem d29_7 : De Hr 7 (.invokestatic 71) 3 := by decide +kernel
theorem d29_10 : De Hr 10 (.ireturn) 1 := by decide +kernel
abbrev y5 : MethodName := ⟨cU, "charAt", "([BI)C"⟩
def Ruch (t : Int32) : Option Value := some (.int t)
def Kuch (Z : State) (p1 zz b1 b2 : Int32) (a0 : Addr) (h0 : Heap) (n0 : Nat) (t : Int32) (h : Heap) (L : List Loc) : Prop := own_K0 h0 h L
def fuch_0 (p1 zz b1 b2 : Int32) : Int32 := (nar .char (fgc_0 p1 zz b1 b2))
set_option maxRecDepth 65536 in
set_option maxHeartbeats 40000000 in
theorem guch_0 (hw : HW aw Z) {h0 : Heap} {n0 : Nat} (p1 zz b1 b2 : Int32) (a0 : Addr) (h1 : ¬ (p1 <<< ((1 : Int32) &&& 31)) < (0 : Int32)) (h2 : (p1 <<< ((1 : Int32) &&& 31)) < zz) (h3 : ¬ ((p1 <<< ((1 : Int32) &&& 31)) + (1 : Int32)) < (0 : Int32)) (h4 : ((p1 <<< ((1 : Int32) &&& 31)) + (1 : Int32)) < zz) (g1 : ¬ p1 < (0 : Int32)) (g2 : p1 < (ful_0 zz))
    (Bd : BodyLoose p l y5 (head1 (Jvm.Cond.code y5 Hr 2 (some .char) :: ws) Quch) Hr 2 (some .char) e s m #[(.ref a0), (.int p1)] below meth c s₁) (hml : c.maxLocals = 2) (hZ : Z.Warmed39 s.vm) (T0 : State) {locs : List Loc} (X0 : Stand p l e Quch s m #[(.ref a0), (.int p1)] below meth c T0 locs 0 0) (e0 : T0.heap = h0) (SZ0 : n0 ≤ h0.size) (NF0 : locs = []) (G0 : own_Be Z h0 a0 zz [((p1 <<< ((1 : Int32) &&& 31)), b1), (((p1 <<< ((1 : Int32) &&& 31)) + (1 : Int32)), b2)]) (J0 : own_J Z h0) :
    own_Go p e below s Quch.cells Quch.slots (Ruch (fuch_0 p1 zz b1 b2)) (Kuch Z p1 zz b1 b2 a0 h0 n0 (fuch_0 p1 zz b1 b2)) (T0.setTop (mkF m 0 #[rv a0, iv p1] [])) := by
  have hx := Bd.exec
  have hby := Bd.bytes
  have hown : s.vm.findClass cU = some m.cls := findClass_of_methodNamed Bd.named
  have hnm := (name_of_methodNamed Bd.named Bd.method).1
  unfold fuch_0
  refine op T0 (mkF m 2 #[rv a0, iv p1] [(.ref a0), (.int p1)]) (fun _ k => XS.iloadN X0.here hx rfl (hb hby d29_0) rfl (XS.aloadN X0.here hx rfl (hb hby d29_1) rfl rfl k)) ?_
  obtain ⟨_, _, ⟨T1, L1, k1, n1⟩, -, X1', ⟨Lc1, hQ1, l1, y1, z1⟩, st'⟩ := Jvm.LawKit.callS X0 hx (y := y4) hown (mvT hZ (ow hw 129 rfl)) (mvT hZ (ow hw 130 rfl)) (mvT hZ (ow hw 35 rfl)) (mvT hZ (ow hw 131 rfl)) (by decide) (backOf (W := 0) (rmuc l Z aw hw [] p1 zz a0 h0 n0 SZ0 (own_Be.nil G0) J0 g1 g2) hZ (ow hw 131 rfl) (ow hw 35 rfl) (by decide) (by decide)) (g := (mkF m 2 #[rv a0, iv p1] [(.ref a0), (.int p1)])) rfl (by rw [hml]; rfl) (argsL := [(.int p1), (.ref a0)]) (rest := []) (lenOf own_pd3 rfl) rfl (by show 2 * 0 + _ ≤ _; exact Nat.le_of_eq rfl) (hb hby d29_2) (fun _ _ => ⟨rfl, e0, (by decide : 0 + 0 ≤ _), (by decide : 0 + 0 ≤ _)⟩)
  dsimp only [Pt.U, Pt.locs, Pt.cells, Pt.slots] at X1' l1 y1 z1 st' hQ1
  subst l1 y1 z1
  obtain ⟨rfl, rfl, e1⟩ := hQ1
  have X1 : Stand p l e Quch s m #[(.ref a0), (.int p1)] below meth c T1 _ 0 0 := own_locs X1'
  refine op T1 (mkF m 7 #[rv a0, iv p1] [(.int p1), (.ref a0)]) (fun _ k => st' _ (XS.aloadN X1.here hx rfl (hb hby d29_5) rfl rfl (XS.iloadN X1.here hx rfl (hb hby d29_6) rfl k))) ?_
  obtain ⟨_, _, ⟨T2, L2, k2, n2⟩, -, X2', ⟨Lc2, hQ2, l2, y2, z2⟩, st'⟩ := Jvm.LawKit.callS X1 hx (y := y3) hown (mvT hZ (ow hw 123 rfl)) (mvT hZ (ow hw 124 rfl)) (mvT hZ (ow hw 35 rfl)) (mvT hZ (ow hw 125 rfl)) (by decide) (backOf (W := 0) (rmgc l Z aw hw [] p1 zz b1 b2 a0 h0 n0 SZ0 G0 J0 h1 h2 h3 h4) hZ (ow hw 125 rfl) (ow hw 35 rfl) (by decide) (by decide)) (g := (mkF m 7 #[rv a0, iv p1] [(.int p1), (.ref a0)])) rfl (by rw [hml]; rfl) (argsL := [(.ref a0), (.int p1)]) (rest := []) (lenOf own_pd4 rfl) rfl (by show 2 * 0 + _ ≤ _; exact Nat.le_of_eq rfl) (hb hby d29_7) (fun _ _ => ⟨rfl, e1, (by decide : 0 + 0 ≤ _), (by decide : 0 + 0 ≤ _)⟩)
  dsimp only [Pt.U, Pt.locs, Pt.cells, Pt.slots] at X2' l2 y2 z2 st' hQ2
  subst l2 y2 z2
  obtain ⟨rfl, rfl, e2⟩ := hQ2
  have X2 : Stand p l e Quch s m #[(.ref a0), (.int p1)] below meth c T2 _ 0 0 := own_locs X2'
  refine op T2 (mkF m 10 #[rv a0, iv p1] [(.int (fgc_0 p1 zz b1 b2))]) (fun _ k => st' _ k) ?_
  exact own_retN X2 hx Bd.notSynchronized (t := .char) Bd.returns (by simp) (hb hby d29_10) (by rw [e2]; exact ⟨NF0, rfl⟩) (by decide) (by decide)
theorem ef_uch (m : MethodId) (a0 : Addr) (p1 : Int32) : entryFrame m #[(.ref a0), (.int p1)] 2 = mkF m 0 #[rv a0, iv p1] [] := by first | (simp [entryFrame, mkF, argsToLocals, Value.category]; done) | rfl
set_option maxRecDepth 65536 in
set_option maxHeartbeats 40000000 in
theorem rmuch (l : Launch) (Z : State) (aw : Array Value) (hw : HW aw Z) (ws : List Jvm.Cond) (p1 zz b1 b2 : Int32) (a0 : Addr) (h0 : Heap) (n0 : Nat) (SZ0 : n0 ≤ h0.size) (G0 : own_Be Z h0 a0 zz [((p1 <<< ((1 : Int32) &&& 31)), b1), (((p1 <<< ((1 : Int32) &&& 31)) + (1 : Int32)), b2)]) (J0 : own_J Z h0) (h1 : ¬ (p1 <<< ((1 : Int32) &&& 31)) < (0 : Int32)) (h2 : (p1 <<< ((1 : Int32) &&& 31)) < zz) (h3 : ¬ ((p1 <<< ((1 : Int32) &&& 31)) + (1 : Int32)) < (0 : Int32)) (h4 : ((p1 <<< ((1 : Int32) &&& 31)) + (1 : Int32)) < zz) (g1 : ¬ p1 < (0 : Int32)) (g2 : p1 < (ful_0 zz)) :
    MetFree l y5 (head1 (Jvm.Cond.code y5 Hr 2 (some .char) :: ws) Quch) (fun a U => a = #[(.ref a0), (.int p1)] ∧ Z.Warmed39 U.vm ∧ U.heap = h0) (fun _ _ _ _ _ => True) (fun _ U o U' => ∃ v L, o = .returned v ∧ own_Q (Ruch (fuch_0 p1 zz b1 b2)) (Kuch Z p1 zz b1 b2 a0 h0 n0 (fuch_0 p1 zz b1 b2)) v U'.heap L ∧ FrameEnd U o U' L Quch.cells Quch.slots) := by
  refine MetFree.of_bodySF (plainFor_of_name own_pn4) hisR ?_
  intro p e s m args below meth c s₁ Bd hml0 hP hK
  obtain ⟨rfl, hZ, hh⟩ := hP
  have hml : c.maxLocals = 2 := hml0
  have e0 : s₁.heap = h0 := by rw [← hh, Bd.state]; rfl
  exact own_pre (fun t k => castTop (ef_uch m a0 p1) k) (guch_0 hw p1 zz b1 b2 a0 h1 h2 h3 h4 g1 g2 Bd hml hZ s₁ (Stand.of_body Bd) e0 SZ0 rfl G0 J0)
abbrev Qlch : Room := { frames := 2, cells := 0, slots := 0, locals := 43 }
/-! body 14, lch -/
theorem d14_0 : De Hf 0 (.iload_n 1) 1 := by decide +kernel
theorem d14_1 : De Hf 1 (.aload_n 0) 1 := by decide +kernel
theorem d14_2 : De Hf 2 (.arraylength) 1 := by decide +kernel
theorem d14_3 : De Hf 3 (.invokestatic 9) 3 := by decide +kernel
theorem d14_6 : De Hf 6 (.aload_n 0) 1 := by decide +kernel
theorem d14_7 : De Hf 7 (.iload_n 1) 1 := by decide +kernel
theorem d14_8 : De Hf 8 (.baload) 1 := by decide +kernel
theorem d14_9 : De Hf 9 (.sipush 255) 3 := by decide +kernel
theorem d14_12 : De Hf 12 (.iand) 1 := by decide +kernel
theorem d14_13 : De Hf 13 (.i2c) 1 := by decide +kernel
theorem d14_14 : De Hf 14 (.ireturn) 1 := by decide +kernel
abbrev y6 : MethodName := ⟨cL1, "charAt", "([BI)C"⟩
def Rlch (t : Int32) : Option Value := some (.int t)
def Klch (Z : State) (p1 zz b1 : Int32) (a0 : Addr) (h0 : Heap) (n0 : Nat) (t : Int32) (h : Heap) (L : List Loc) : Prop := own_K0 h0 h L
def flch_0 (p1 zz b1 : Int32) : Int32 := (nar .char ((b1 &&& (255 : Int32)).toUInt32.toUInt16.toUInt32.toInt32))
set_option maxRecDepth 65536 in
set_option maxHeartbeats 40000000 in
theorem glch_0 (hw : HW aw Z) {h0 : Heap} {n0 : Nat} (p1 zz b1 : Int32) (a0 : Addr) (h1 : ¬ p1 < (0 : Int32)) (h2 : p1 < zz)
    (Bd : BodyLoose p l y6 (head1 (Jvm.Cond.code y6 Hf 2 (some .char) :: ws) Qlch) Hf 2 (some .char) e s m #[(.ref a0), (.int p1)] below meth c s₁) (hml : c.maxLocals = 2) (hZ : Z.Warmed39 s.vm) (T0 : State) {locs : List Loc} (X0 : Stand p l e Qlch s m #[(.ref a0), (.int p1)] below meth c T0 locs 0 0) (e0 : T0.heap = h0) (SZ0 : n0 ≤ h0.size) (NF0 : locs = []) (G0 : own_Be Z h0 a0 zz [(p1, b1)]) (J0 : own_J Z h0) :
    own_Go p e below s Qlch.cells Qlch.slots (Rlch (flch_0 p1 zz b1)) (Klch Z p1 zz b1 a0 h0 n0 (flch_0 p1 zz b1)) (T0.setTop (mkF m 0 #[rv a0, iv p1] [])) := by
  have hx := Bd.exec
  have hby := Bd.bytes
  have hown : s.vm.findClass cL1 = some m.cls := findClass_of_methodNamed Bd.named
  have hnm := (name_of_methodNamed Bd.named Bd.method).1
  unfold flch_0
  refine op T0 (mkF m 2 #[rv a0, iv p1] [(.ref a0), (.int p1)]) (fun _ k => XS.iloadN X0.here hx rfl (hb hby d14_0) rfl (XS.aloadN X0.here hx rfl (hb hby d14_1) rfl rfl k)) ?_
  obtain ⟨k1, vs1, ⟨cl1, Ar1, q1, S1, N1, H1, G1⟩, hl1⟩ := id G0
  refine op T0 (mkF m 3 #[rv a0, iv p1] [(.int zz), (.int p1)]) (fun t k => X0.arraylength hx (by rw [e0]; exact Ar1.1) (State.isArrayOf_alike hZ.alike Ar1.2.1) (g := (mkF m 2 #[rv a0, iv p1] [(.ref a0), (.int p1)])) rfl rfl (hb hby d14_2) t (by rw [len_of S1 N1]; exact k)) ?_
  obtain ⟨_, _, ⟨T2, L2, k2, n2⟩, -, X2', ⟨Lc2, hQ2, l2, y2, z2⟩, st'⟩ := Jvm.LawKit.callS X0 hx (y := y1) hown (mvT hZ (ow hw 71 rfl)) (mvT hZ (ow hw 72 rfl)) (mvT hZ (ow hw 4 rfl)) (mvT hZ (ow hw 73 rfl)) (by decide) (backOf (W := 0) (rmci l Z aw hw [] p1 zz  h0 n0 SZ0 J0 h1 h2) hZ (ow hw 73 rfl) (ow hw 4 rfl) (by decide) (by decide)) (g := (mkF m 3 #[rv a0, iv p1] [(.int zz), (.int p1)])) rfl (by rw [hml]; rfl) (argsL := [(.int p1), (.int zz)]) (rest := []) (lenOf own_pd2 rfl) rfl (by show 2 * 0 + _ ≤ _; exact Nat.le_of_eq rfl) (hb hby d14_3) (fun _ _ => ⟨rfl, e0, (by decide : 0 + 0 ≤ _), (by decide : 0 + 0 ≤ _)⟩)
  dsimp only [Pt.U, Pt.locs, Pt.cells, Pt.slots] at X2' l2 y2 z2 st' hQ2
  subst l2 y2 z2
  obtain ⟨rfl, rfl, e2⟩ := hQ2
  have X2 : Stand p l e Qlch s m #[(.ref a0), (.int p1)] below meth c T2 _ 0 0 := own_locs X2'
  refine op T2 (mkF m 8 #[rv a0, iv p1] [(.int p1), (.ref a0)]) (fun _ k => st' _ (XS.aloadN X2.here hx rfl (hb hby d14_6) rfl rfl (XS.iloadN X2.here hx rfl (hb hby d14_7) rfl k))) ?_
  obtain ⟨k3, vs3, ⟨cl3, Ar3, q3, S3, N3, H3, G3⟩, hl3⟩ := id G0
  have hin3 : ¬ (p1 < 0 ∨ cl3.slots.size ≤ (p1).toNatClampNeg) := inb_of S3 ⟨h1, h2⟩
  refine op T2 (mkF m 9 #[rv a0, iv p1] [(.int b1)]) (fun t k => X2.baloadBytes hx (j := p1) (v := (.int b1)) (by rw [e2]; exact Ar3.1) (State.isArrayOf_alike hZ.alike Ar3.2.1) Ar3.2.2 hin3 (H3.at hin3 (hl3 _ (List.mem_of_getElem? (i := 0) rfl))) (g := (mkF m 8 #[rv a0, iv p1] [(.int p1), (.ref a0)])) rfl rfl (hb hby d14_8) t k) ?_
  refine op T2 (mkF m 14 #[rv a0, iv p1] [(.int ((b1 &&& (255 : Int32)).toUInt32.toUInt16.toUInt32.toInt32))]) (fun _ k => XS.sipush X2.here hx rfl (hb hby d14_9) (XS.iand X2.here hx rfl (hb hby d14_12) rfl (XS.i2c X2.here hx rfl (hb hby d14_13) rfl k))) ?_
  exact own_retN X2 hx Bd.notSynchronized (t := .char) Bd.returns (by simp) (hb hby d14_14) (by rw [e2]; exact ⟨NF0, rfl⟩) (by decide) (by decide)
theorem ef_lch (m : MethodId) (a0 : Addr) (p1 : Int32) : entryFrame m #[(.ref a0), (.int p1)] 2 = mkF m 0 #[rv a0, iv p1] [] := by first | (simp [entryFrame, mkF, argsToLocals, Value.category]; done) | rfl
set_option maxRecDepth 65536 in
set_option maxHeartbeats 40000000 in
theorem rmlch (l : Launch) (Z : State) (aw : Array Value) (hw : HW aw Z) (ws : List Jvm.Cond) (p1 zz b1 : Int32) (a0 : Addr) (h0 : Heap) (n0 : Nat) (SZ0 : n0 ≤ h0.size) (G0 : own_Be Z h0 a0 zz [(p1, b1)]) (J0 : own_J Z h0) (h1 : ¬ p1 < (0 : Int32)) (h2 : p1 < zz) :
    MetFree l y6 (head1 (Jvm.Cond.code y6 Hf 2 (some .char) :: ws) Qlch) (fun a U => a = #[(.ref a0), (.int p1)] ∧ Z.Warmed39 U.vm ∧ U.heap = h0) (fun _ _ _ _ _ => True) (fun _ U o U' => ∃ v L, o = .returned v ∧ own_Q (Rlch (flch_0 p1 zz b1)) (Klch Z p1 zz b1 a0 h0 n0 (flch_0 p1 zz b1)) v U'.heap L ∧ FrameEnd U o U' L Qlch.cells Qlch.slots) := by
  refine MetFree.of_bodySF (plainFor_of_name own_pn0) hisR ?_
  intro p e s m args below meth c s₁ Bd hml0 hP hK
  obtain ⟨rfl, hZ, hh⟩ := hP
  have hml : c.maxLocals = 2 := hml0
  have e0 : s₁.heap = h0 := by rw [← hh, Bd.state]; rfl
  exact own_pre (fun t k => castTop (ef_lch m a0 p1) k) (glch_0 hw p1 zz b1 a0 h1 h2 Bd hml hZ s₁ (Stand.of_body Bd) e0 SZ0 rfl G0 J0)
abbrev Qil0 : Room := { frames := 0, cells := 0, slots := 0, locals := 0 }
/-! body 13, il0 -/
theorem d13_0 : De Hb 0 (.getstatic 38) 3 := by decide +kernel
theorem d13_3 : De Hb 3 (.ifCond .eq 14) 3 := by decide +kernel
theorem d13_6 : De Hb 6 (.aload_n 0) 1 := by decide +kernel
theorem d13_7 : De Hb 7 (.getfield 15) 3 := by decide +kernel
theorem d13_10 : De Hb 10 (.ifCond .ne 7) 3 := by decide +kernel
theorem d13_13 : De Hb 13 (.iconst 1) 1 := by decide +kernel
theorem d13_14 : De Hb 14 (.goto 4) 3 := by decide +kernel
theorem d13_17 : De Hb 17 (.iconst 0) 1 := by decide +kernel
theorem d13_18 : De Hb 18 (.ireturn) 1 := by decide +kernel
abbrev y7 : MethodName := ⟨cS, "isLatin1", "()Z"⟩
def Ril0 (t : Int32) : Option Value := some (.int t)
def Kil0 (Z : State)  (a0 : Addr) (h0 : Heap) (n0 : Nat) (t : Int32) (h : Heap) (L : List Loc) : Prop := own_K0 h0 h L
def fil0_0  : Int32 := (1 : Int32)
set_option maxRecDepth 65536 in
set_option maxHeartbeats 40000000 in
theorem gil0_0 (hw : HW aw Z) {h0 : Heap} {n0 : Nat}  (a0 : Addr)
    (Bd : BodyLoose p l y7 (head1 (Jvm.Cond.code y7 Hb 1 (some .boolean) :: ws) Qil0) Hb 1 (some .boolean) e s m #[(.ref a0)] below meth c s₁) (hml : c.maxLocals = 1) (hZ : Z.Warmed39 s.vm) (T0 : State) {locs : List Loc} (X0 : Stand p l e Qil0 s m #[(.ref a0)] below meth c T0 locs 0 0) (e0 : T0.heap = h0) (SZ0 : n0 ≤ h0.size) (NF0 : locs = []) (Gc : Fld Z h0 a0 cS "coder" "B" (.int 0)) (J0 : own_J Z h0) :
    own_Go p e below s Qil0.cells Qil0.slots (Ril0 (fil0_0 )) (Kil0 Z  a0 h0 n0 (fil0_0 )) (T0.setTop (mkF m 0 #[rv a0] [])) := by
  have hx := Bd.exec
  have hby := Bd.bytes
  have hown : s.vm.findClass cS = some m.cls := findClass_of_methodNamed Bd.named
  have hnm := (name_of_methodNamed Bd.named Bd.method).1
  unfold fil0_0
  obtain ⟨cs, sf, js⟩ := id J0
  obtain ⟨T1, X1, e1, st'⟩ := getS2 X0 hx hZ hown (host := "") (Or.inl (ow hw 32 rfl)) Via.refl e0 js.1 (g := (mkF m 0 #[rv a0] [])) rfl (hb hby d13_0)
  refine op T1 (mkF m 3 #[rv a0] [(.int cs)]) (fun _ k => st' _ k) ?_
  have hc3 : ¬ (cs = (0 : Int32)) := js.2.2.2.2.2.1
  refine op T1 (mkF m 7 #[rv a0] [(.ref a0)]) (fun _ k => XS.ifNo X1.here hx rfl (hb hby d13_3) rfl ((if0 _ _).trans (feq hc3).1) (XS.aloadN X1.here hx rfl (hb hby d13_6) rfl rfl k)) ?_
  obtain ⟨T2, X2, e2, st'⟩ := getF X1 hx hZ hown (host := "") (Or.inl (ow hw 22 rfl)) Via.refl e1 Gc (g := (mkF m 7 #[rv a0] [(.ref a0)])) rfl rfl (hb hby d13_7)
  refine op T2 (mkF m 10 #[rv a0] [(.int 0)]) (fun _ k => st' _ k) ?_
  have hd3 : (0 : Int32) = (0 : Int32) := by decide
  refine op T2 (mkF m 18 #[rv a0] [(.int 1)]) (fun _ k => XS.ifNo X2.here hx rfl (hb hby d13_10) rfl ((if0 _ _).trans (teq hd3).2) (XS.iconst X2.here hx rfl (hb hby d13_13) (XS.goto X2.here hx rfl (pc0 := 14) (pc' := 18) rfl (hb hby d13_14) (by decide) (by decide) k))) ?_
  exact own_ret (w := (.int 1)) X2 hx Bd.notSynchronized Bd.returns rfl (Or.inl ⟨rfl, by simp, _, rfl⟩) (hb hby d13_18) (by rw [e2]; exact ⟨NF0, rfl⟩) (by decide) (by decide)
theorem ef_il0 (m : MethodId) (a0 : Addr) : entryFrame m #[(.ref a0)] 1 = mkF m 0 #[rv a0] [] := by first | (simp [entryFrame, mkF, argsToLocals, Value.category]; done) | rfl
set_option maxRecDepth 65536 in
set_option maxHeartbeats 40000000 in
theorem rmil0 (l : Launch) (Z : State) (aw : Array Value) (hw : HW aw Z) (ws : List Jvm.Cond)  (a0 : Addr) (h0 : Heap) (n0 : Nat) (SZ0 : n0 ≤ h0.size) (Gc : Fld Z h0 a0 cS "coder" "B" (.int 0)) (J0 : own_J Z h0) :
    MetFree l y7 (head1 (Jvm.Cond.code y7 Hb 1 (some .boolean) :: ws) Qil0) (fun a U => a = #[(.ref a0)] ∧ Z.Warmed39 U.vm ∧ U.heap = h0) (fun _ _ _ _ _ => True) (fun _ U o U' => ∃ v L, o = .returned v ∧ own_Q (Ril0 (fil0_0 )) (Kil0 Z  a0 h0 n0 (fil0_0 )) v U'.heap L ∧ FrameEnd U o U' L Qil0.cells Qil0.slots) := by
  refine MetFree.of_bodySF (plainFor_of_name own_pn3) hisR ?_
  intro p e s m args below meth c s₁ Bd hml0 hP hK
  obtain ⟨rfl, hZ, hh⟩ := hP
  have hml : c.maxLocals = 1 := hml0
  have e0 : s₁.heap = h0 := by rw [← hh, Bd.state]; rfl
  exact own_pre (fun t k => castTop (ef_il0 m a0) k) (gil0_0 hw  a0 Bd hml hZ s₁ (Stand.of_body Bd) e0 SZ0 rfl Gc J0)
abbrev Qil1 : Room := { frames := 0, cells := 0, slots := 0, locals := 0 }
/-! body 13, il1 -/
def Ril1 (t : Int32) : Option Value := some (.int t)
def Kil1 (Z : State)  (a0 : Addr) (h0 : Heap) (n0 : Nat) (t : Int32) (h : Heap) (L : List Loc) : Prop := own_K0 h0 h L
def fil1_0  : Int32 := (0 : Int32)
set_option maxRecDepth 65536 in
set_option maxHeartbeats 40000000 in
theorem gil1_0 (hw : HW aw Z) {h0 : Heap} {n0 : Nat}  (a0 : Addr)
    (Bd : BodyLoose p l y7 (head1 (Jvm.Cond.code y7 Hb 1 (some .boolean) :: ws) Qil1) Hb 1 (some .boolean) e s m #[(.ref a0)] below meth c s₁) (hml : c.maxLocals = 1) (hZ : Z.Warmed39 s.vm) (T0 : State) {locs : List Loc} (X0 : Stand p l e Qil1 s m #[(.ref a0)] below meth c T0 locs 0 0) (e0 : T0.heap = h0) (SZ0 : n0 ≤ h0.size) (NF0 : locs = []) (Gc : Fld Z h0 a0 cS "coder" "B" (.int 1)) (J0 : own_J Z h0) :
    own_Go p e below s Qil1.cells Qil1.slots (Ril1 (fil1_0 )) (Kil1 Z  a0 h0 n0 (fil1_0 )) (T0.setTop (mkF m 0 #[rv a0] [])) := by
  have hx := Bd.exec
  have hby := Bd.bytes
  have hown : s.vm.findClass cS = some m.cls := findClass_of_methodNamed Bd.named
  have hnm := (name_of_methodNamed Bd.named Bd.method).1
  unfold fil1_0
  obtain ⟨cs, sf, js⟩ := id J0
  obtain ⟨T1, X1, e1, st'⟩ := getS2 X0 hx hZ hown (host := "") (Or.inl (ow hw 32 rfl)) Via.refl e0 js.1 (g := (mkF m 0 #[rv a0] [])) rfl (hb hby d13_0)
  refine op T1 (mkF m 3 #[rv a0] [(.int cs)]) (fun _ k => st' _ k) ?_
  have hc3 : ¬ (cs = (0 : Int32)) := js.2.2.2.2.2.1
  refine op T1 (mkF m 7 #[rv a0] [(.ref a0)]) (fun _ k => XS.ifNo X1.here hx rfl (hb hby d13_3) rfl ((if0 _ _).trans (feq hc3).1) (XS.aloadN X1.here hx rfl (hb hby d13_6) rfl rfl k)) ?_
  obtain ⟨T2, X2, e2, st'⟩ := getF X1 hx hZ hown (host := "") (Or.inl (ow hw 22 rfl)) Via.refl e1 Gc (g := (mkF m 7 #[rv a0] [(.ref a0)])) rfl rfl (hb hby d13_7)
  refine op T2 (mkF m 10 #[rv a0] [(.int 1)]) (fun _ k => st' _ k) ?_
  have hd3 : ¬ ((1 : Int32) = (0 : Int32)) := by decide
  refine op T2 (mkF m 18 #[rv a0] [(.int 0)]) (fun _ k => XS.ifYes X2.here hx rfl (pc0 := 10) (pc' := 17) rfl (hb hby d13_10) rfl ((if0 _ _).trans (feq hd3).2) (by decide) (by decide) (XS.iconst X2.here hx rfl (hb hby d13_17) k)) ?_
  exact own_ret (w := (.int 0)) X2 hx Bd.notSynchronized Bd.returns rfl (Or.inl ⟨rfl, by simp, _, rfl⟩) (hb hby d13_18) (by rw [e2]; exact ⟨NF0, rfl⟩) (by decide) (by decide)
theorem ef_il1 (m : MethodId) (a0 : Addr) : entryFrame m #[(.ref a0)] 1 = mkF m 0 #[rv a0] [] := by first | (simp [entryFrame, mkF, argsToLocals, Value.category]; done) | rfl
set_option maxRecDepth 65536 in
set_option maxHeartbeats 40000000 in
theorem rmil1 (l : Launch) (Z : State) (aw : Array Value) (hw : HW aw Z) (ws : List Jvm.Cond)  (a0 : Addr) (h0 : Heap) (n0 : Nat) (SZ0 : n0 ≤ h0.size) (Gc : Fld Z h0 a0 cS "coder" "B" (.int 1)) (J0 : own_J Z h0) :
    MetFree l y7 (head1 (Jvm.Cond.code y7 Hb 1 (some .boolean) :: ws) Qil1) (fun a U => a = #[(.ref a0)] ∧ Z.Warmed39 U.vm ∧ U.heap = h0) (fun _ _ _ _ _ => True) (fun _ U o U' => ∃ v L, o = .returned v ∧ own_Q (Ril1 (fil1_0 )) (Kil1 Z  a0 h0 n0 (fil1_0 )) v U'.heap L ∧ FrameEnd U o U' L Qil1.cells Qil1.slots) := by
  refine MetFree.of_bodySF (plainFor_of_name own_pn3) hisR ?_
  intro p e s m args below meth c s₁ Bd hml0 hP hK
  obtain ⟨rfl, hZ, hh⟩ := hP
  have hml : c.maxLocals = 1 := hml0
  have e0 : s₁.heap = h0 := by rw [← hh, Bd.state]; rfl
  exact own_pre (fun t k => castTop (ef_il1 m a0) k) (gil1_0 hw  a0 Bd hml hZ s₁ (Stand.of_body Bd) e0 SZ0 rfl Gc J0)
abbrev Qco : Room := { frames := 0, cells := 0, slots := 0, locals := 0 }
/-! body 11, co -/
theorem d11_0 : De Hs 0 (.getstatic 38) 3 := by decide +kernel
theorem d11_3 : De Hs 3 (.ifCond .eq 10) 3 := by decide +kernel
theorem d11_6 : De Hs 6 (.aload_n 0) 1 := by decide +kernel
theorem d11_7 : De Hs 7 (.getfield 15) 3 := by decide +kernel
theorem d11_10 : De Hs 10 (.goto 4) 3 := by decide +kernel
theorem d11_14 : De Hs 14 (.ireturn) 1 := by decide +kernel
abbrev y8 : MethodName := ⟨cS, "coder", "()B"⟩
def Rco (t : Int32) : Option Value := some (.int t)
def Kco (Z : State) (cd : Int32) (a0 : Addr) (h0 : Heap) (n0 : Nat) (t : Int32) (h : Heap) (L : List Loc) : Prop := own_K0 h0 h L
def fco_0 (cd : Int32) : Int32 := (nar .byte cd)
set_option maxRecDepth 65536 in
set_option maxHeartbeats 40000000 in
theorem gco_0 (hw : HW aw Z) {h0 : Heap} {n0 : Nat} (cd : Int32) (a0 : Addr)
    (Bd : BodyLoose p l y8 (head1 (Jvm.Cond.code y8 Hs 1 (some .byte) :: ws) Qco) Hs 1 (some .byte) e s m #[(.ref a0)] below meth c s₁) (hml : c.maxLocals = 1) (hZ : Z.Warmed39 s.vm) (T0 : State) {locs : List Loc} (X0 : Stand p l e Qco s m #[(.ref a0)] below meth c T0 locs 0 0) (e0 : T0.heap = h0) (SZ0 : n0 ≤ h0.size) (NF0 : locs = []) (Gc : Fld Z h0 a0 cS "coder" "B" (.int cd)) (J0 : own_J Z h0) :
    own_Go p e below s Qco.cells Qco.slots (Rco (fco_0 cd)) (Kco Z cd a0 h0 n0 (fco_0 cd)) (T0.setTop (mkF m 0 #[rv a0] [])) := by
  have hx := Bd.exec
  have hby := Bd.bytes
  have hown : s.vm.findClass cS = some m.cls := findClass_of_methodNamed Bd.named
  have hnm := (name_of_methodNamed Bd.named Bd.method).1
  unfold fco_0
  obtain ⟨cs, sf, js⟩ := id J0
  obtain ⟨T1, X1, e1, st'⟩ := getS2 X0 hx hZ hown (host := "") (Or.inl (ow hw 32 rfl)) Via.refl e0 js.1 (g := (mkF m 0 #[rv a0] [])) rfl (hb hby d11_0)
  refine op T1 (mkF m 3 #[rv a0] [(.int cs)]) (fun _ k => st' _ k) ?_
  have hc3 : ¬ (cs = (0 : Int32)) := js.2.2.2.2.2.1
  refine op T1 (mkF m 7 #[rv a0] [(.ref a0)]) (fun _ k => XS.ifNo X1.here hx rfl (hb hby d11_3) rfl ((if0 _ _).trans (feq hc3).1) (XS.aloadN X1.here hx rfl (hb hby d11_6) rfl rfl k)) ?_
  obtain ⟨T2, X2, e2, st'⟩ := getF X1 hx hZ hown (host := "") (Or.inl (ow hw 22 rfl)) Via.refl e1 Gc (g := (mkF m 7 #[rv a0] [(.ref a0)])) rfl rfl (hb hby d11_7)
  refine op T2 (mkF m 14 #[rv a0] [(.int cd)]) (fun _ k => st' _ (XS.goto X2.here hx rfl (pc0 := 10) (pc' := 14) rfl (hb hby d11_10) (by decide) (by decide) k)) ?_
  exact own_retN X2 hx Bd.notSynchronized (t := .byte) Bd.returns (by simp) (hb hby d11_14) (by rw [e2]; exact ⟨NF0, rfl⟩) (by decide) (by decide)
theorem ef_co (m : MethodId) (a0 : Addr) : entryFrame m #[(.ref a0)] 1 = mkF m 0 #[rv a0] [] := by first | (simp [entryFrame, mkF, argsToLocals, Value.category]; done) | rfl
set_option maxRecDepth 65536 in
set_option maxHeartbeats 40000000 in
theorem rmco (l : Launch) (Z : State) (aw : Array Value) (hw : HW aw Z) (ws : List Jvm.Cond) (cd : Int32) (a0 : Addr) (h0 : Heap) (n0 : Nat) (SZ0 : n0 ≤ h0.size) (Gc : Fld Z h0 a0 cS "coder" "B" (.int cd)) (J0 : own_J Z h0) :
    MetFree l y8 (head1 (Jvm.Cond.code y8 Hs 1 (some .byte) :: ws) Qco) (fun a U => a = #[(.ref a0)] ∧ Z.Warmed39 U.vm ∧ U.heap = h0) (fun _ _ _ _ _ => True) (fun _ U o U' => ∃ v L, o = .returned v ∧ own_Q (Rco (fco_0 cd)) (Kco Z cd a0 h0 n0 (fco_0 cd)) v U'.heap L ∧ FrameEnd U o U' L Qco.cells Qco.slots) := by
  refine MetFree.of_bodySF (plainFor_of_name own_pn3) hisR ?_
  intro p e s m args below meth c s₁ Bd hml0 hP hK
  obtain ⟨rfl, hZ, hh⟩ := hP
  have hml : c.maxLocals = 1 := hml0
  have e0 : s₁.heap = h0 := by rw [← hh, Bd.state]; rfl
  exact own_pre (fun t k => castTop (ef_co m a0) k) (gco_0 hw cd a0 Bd hml hZ s₁ (Stand.of_body Bd) e0 SZ0 rfl Gc J0)
abbrev Qlen : Room := { frames := 1, cells := 0, slots := 0, locals := 20 }
theorem own_pd5 : parseMethodDescriptor "()B" = some ⟨[], some .byte⟩ := by decide +kernel
/-! body 10, len -/
theorem d10_0 : De Hi 0 (.aload_n 0) 1 := by decide +kernel
theorem d10_1 : De Hi 1 (.getfield 9) 3 := by decide +kernel
theorem d10_4 : De Hi 4 (.arraylength) 1 := by decide +kernel
theorem d10_5 : De Hi 5 (.aload_n 0) 1 := by decide +kernel
theorem d10_6 : De Hi 6 (.invokevirtual 335) 3 := by decide +kernel
theorem d10_9 : De Hi 9 (.ishr) 1 := by decide +kernel
theorem d10_10 : De Hi 10 (.ireturn) 1 := by decide +kernel
abbrev y9 : MethodName := ⟨cS, "length", "()I"⟩
def Rlen (t : Int32) : Option Value := some (.int t)
def Klen (Z : State) (zz cd : Int32) (a0 bv : Addr) (h0 : Heap) (n0 : Nat) (t : Int32) (h : Heap) (L : List Loc) : Prop := own_K0 h0 h L
def flen_0 (zz cd : Int32) : Int32 := (zz >>> ((fco_0 cd) &&& 31))
set_option maxRecDepth 65536 in
set_option maxHeartbeats 40000000 in
theorem glen_0 (hw : HW aw Z) {h0 : Heap} {n0 : Nat} (zz cd : Int32) (a0 bv : Addr)
    (Bd : BodyLoose p l y9 (head1 (Jvm.Cond.code y9 Hi 1 (some .int) :: ws) Qlen) Hi 1 (some .int) e s m #[(.ref a0)] below meth c s₁) (hml : c.maxLocals = 1) (hZ : Z.Warmed39 s.vm) (T0 : State) {locs : List Loc} (X0 : Stand p l e Qlen s m #[(.ref a0)] below meth c T0 locs 0 0) (e0 : T0.heap = h0) (SZ0 : n0 ≤ h0.size) (NF0 : locs = []) (Ga : Exa Z h0 a0 cS) (Gf : Fld Z h0 a0 cS "value" "[B" (.ref bv)) (Gc : Fld Z h0 a0 cS "coder" "B" (.int cd)) (Gx : own_Be Z h0 bv zz []) (J0 : own_J Z h0) :
    own_Go p e below s Qlen.cells Qlen.slots (Rlen (flen_0 zz cd)) (Klen Z zz cd a0 bv h0 n0 (flen_0 zz cd)) (T0.setTop (mkF m 0 #[rv a0] [])) := by
  have hx := Bd.exec
  have hby := Bd.bytes
  have hown : s.vm.findClass cS = some m.cls := findClass_of_methodNamed Bd.named
  have hnm := (name_of_methodNamed Bd.named Bd.method).1
  unfold flen_0
  refine op T0 (mkF m 1 #[rv a0] [(.ref a0)]) (fun _ k => XS.aloadN X0.here hx rfl (hb hby d10_0) rfl rfl k) ?_
  obtain ⟨T1, X1, e1, st'⟩ := getF X0 hx hZ hown (host := "") (Or.inl (ow hw 21 rfl)) Via.refl e0 Gf (g := (mkF m 1 #[rv a0] [(.ref a0)])) rfl rfl (hb hby d10_1)
  refine op T1 (mkF m 4 #[rv a0] [(.ref bv)]) (fun _ k => st' _ k) ?_
  obtain ⟨k2, vs2, ⟨cl2, Ar2, q2, S2, N2, H2, G2⟩, hl2⟩ := id Gx
  refine op T1 (mkF m 5 #[rv a0] [(.int zz)]) (fun t k => X1.arraylength hx (by rw [e1]; exact Ar2.1) (State.isArrayOf_alike hZ.alike Ar2.2.1) (g := (mkF m 4 #[rv a0] [(.ref bv)])) rfl rfl (hb hby d10_4) t (by rw [len_of S2 N2]; exact k)) ?_
  refine op T1 (mkF m 6 #[rv a0] [(.ref a0), (.int zz)]) (fun _ k => XS.aloadN X1.here hx rfl (hb hby d10_5) rfl rfl k) ?_
  obtain ⟨cq3, kq3, qa3, qb3, qc3⟩ := isOf hZ e1 Ga
  obtain ⟨_, _, ⟨T3, L3, k3, n3⟩, -, X3', ⟨Lc3, hQ3, l3, y3, z3⟩, st'⟩ := X1.virtualBack hx (y := y8) (z := y8) hown (mvT hZ (ow hw 52 rfl)) (mvT hZ (ow hw 53 rfl)) (notFace_of_selects (args := #[]) (mvT hZ (ow hw 55 rfl))) (mvT hZ (ow hw 55 rfl)) (mvT hZ (ow hw 54 rfl)) (by decide) (backOf (W := 1) (rmco l Z aw hw [] cd a0 h0 n0 SZ0 Gc J0) hZ (ow hw 56 rfl) (ow hw 4 rfl) (by decide) (by decide)) qa3 qc3 (g := (mkF m 6 #[rv a0] [(.ref a0), (.int zz)])) rfl (by rw [hml]; rfl) (Steps.refl _) (argsL := []) (rest := [(.int zz)]) (lenOf own_pd5 rfl) rfl (by show 2 * 0 + _ ≤ _; exact Nat.le_of_eq rfl) (hb hby d10_6) (fun _ _ => ⟨rfl, e1, (by decide : 0 + 0 ≤ _), (by decide : 0 + 0 ≤ _)⟩)
  dsimp only [Pt.U, Pt.locs, Pt.cells, Pt.slots] at X3' l3 y3 z3 st' hQ3
  subst l3 y3 z3
  obtain ⟨rfl, rfl, e3⟩ := hQ3
  have X3 : Stand p l e Qlen s m #[(.ref a0)] below meth c T3 _ 0 0 := own_locs X3'
  refine op T3 (mkF m 10 #[rv a0] [(.int (zz >>> ((fco_0 cd) &&& 31)))]) (fun _ k => st'.trans (XS.ishr X3.here hx rfl (hb hby d10_9) rfl k)) ?_
  exact own_ret (w := (.int (zz >>> ((fco_0 cd) &&& 31)))) X3 hx Bd.notSynchronized Bd.returns rfl (Or.inl ⟨rfl, by simp, _, rfl⟩) (hb hby d10_10) (by rw [e3]; exact ⟨NF0, rfl⟩) (by decide) (by decide)
theorem ef_len (m : MethodId) (a0 : Addr) : entryFrame m #[(.ref a0)] 1 = mkF m 0 #[rv a0] [] := by first | (simp [entryFrame, mkF, argsToLocals, Value.category]; done) | rfl
set_option maxRecDepth 65536 in
set_option maxHeartbeats 40000000 in
theorem rmlen (l : Launch) (Z : State) (aw : Array Value) (hw : HW aw Z) (ws : List Jvm.Cond) (zz cd : Int32) (a0 bv : Addr) (h0 : Heap) (n0 : Nat) (SZ0 : n0 ≤ h0.size) (Ga : Exa Z h0 a0 cS) (Gf : Fld Z h0 a0 cS "value" "[B" (.ref bv)) (Gc : Fld Z h0 a0 cS "coder" "B" (.int cd)) (Gx : own_Be Z h0 bv zz []) (J0 : own_J Z h0) :
    MetFree l y9 (head1 (Jvm.Cond.code y9 Hi 1 (some .int) :: ws) Qlen) (fun a U => a = #[(.ref a0)] ∧ Z.Warmed39 U.vm ∧ U.heap = h0) (fun _ _ _ _ _ => True) (fun _ U o U' => ∃ v L, o = .returned v ∧ own_Q (Rlen (flen_0 zz cd)) (Klen Z zz cd a0 bv h0 n0 (flen_0 zz cd)) v U'.heap L ∧ FrameEnd U o U' L Qlen.cells Qlen.slots) := by
  refine MetFree.of_bodySF (plainFor_of_name own_pn3) hisR ?_
  intro p e s m args below meth c s₁ Bd hml0 hP hK
  obtain ⟨rfl, hZ, hh⟩ := hP
  have hml : c.maxLocals = 1 := hml0
  have e0 : s₁.heap = h0 := by rw [← hh, Bd.state]; rfl
  exact own_pre (fun t k => castTop (ef_len m a0) k) (glen_0 hw zz cd a0 bv Bd hml hZ s₁ (Stand.of_body Bd) e0 SZ0 rfl Ga Gf Gc Gx J0)
abbrev Qie : Room := { frames := 0, cells := 0, slots := 0, locals := 0 }
/-! body 5, ie -/
theorem d5_0 : De Hc 0 (.aload_n 0) 1 := by decide +kernel
theorem d5_1 : De Hc 1 (.getfield 9) 3 := by decide +kernel
theorem d5_4 : De Hc 4 (.arraylength) 1 := by decide +kernel
theorem d5_5 : De Hc 5 (.ifCond .ne 7) 3 := by decide +kernel
theorem d5_8 : De Hc 8 (.iconst 1) 1 := by decide +kernel
theorem d5_9 : De Hc 9 (.goto 4) 3 := by decide +kernel
theorem d5_12 : De Hc 12 (.iconst 0) 1 := by decide +kernel
theorem d5_13 : De Hc 13 (.ireturn) 1 := by decide +kernel
abbrev y10 : MethodName := ⟨cS, "isEmpty", "()Z"⟩
def Rie (t : Int32) : Option Value := some (.int t)
def Kie (Z : State) (zz : Int32) (a0 bv : Addr) (h0 : Heap) (n0 : Nat) (t : Int32) (h : Heap) (L : List Loc) : Prop := own_K0 h0 h L
def fie_0 (zz : Int32) : Int32 := (if zz = (0 : Int32) then (1 : Int32) else (0 : Int32))
set_option maxRecDepth 65536 in
set_option maxHeartbeats 40000000 in
theorem gie_0 (hw : HW aw Z) {h0 : Heap} {n0 : Nat} (zz : Int32) (a0 bv : Addr)
    (Bd : BodyLoose p l y10 (head1 (Jvm.Cond.code y10 Hc 1 (some .boolean) :: ws) Qie) Hc 1 (some .boolean) e s m #[(.ref a0)] below meth c s₁) (hml : c.maxLocals = 1) (hZ : Z.Warmed39 s.vm) (T0 : State) {locs : List Loc} (X0 : Stand p l e Qie s m #[(.ref a0)] below meth c T0 locs 0 0) (e0 : T0.heap = h0) (SZ0 : n0 ≤ h0.size) (NF0 : locs = []) (Gf : Fld Z h0 a0 cS "value" "[B" (.ref bv)) (Gx : own_Be Z h0 bv zz []) :
    own_Go p e below s Qie.cells Qie.slots (Rie (fie_0 zz)) (Kie Z zz a0 bv h0 n0 (fie_0 zz)) (T0.setTop (mkF m 0 #[rv a0] [])) := by
  have hx := Bd.exec
  have hby := Bd.bytes
  have hown : s.vm.findClass cS = some m.cls := findClass_of_methodNamed Bd.named
  have hnm := (name_of_methodNamed Bd.named Bd.method).1
  unfold fie_0
  refine op T0 (mkF m 1 #[rv a0] [(.ref a0)]) (fun _ k => XS.aloadN X0.here hx rfl (hb hby d5_0) rfl rfl k) ?_
  obtain ⟨T1, X1, e1, st'⟩ := getF X0 hx hZ hown (host := "") (Or.inl (ow hw 21 rfl)) Via.refl e0 Gf (g := (mkF m 1 #[rv a0] [(.ref a0)])) rfl rfl (hb hby d5_1)
  refine op T1 (mkF m 4 #[rv a0] [(.ref bv)]) (fun _ k => st' _ k) ?_
  obtain ⟨k2, vs2, ⟨cl2, Ar2, q2, S2, N2, H2, G2⟩, hl2⟩ := id Gx
  refine op T1 (mkF m 5 #[rv a0] [(.int zz)]) (fun t k => X1.arraylength hx (by rw [e1]; exact Ar2.1) (State.isArrayOf_alike hZ.alike Ar2.2.1) (g := (mkF m 4 #[rv a0] [(.ref bv)])) rfl rfl (hb hby d5_4) t (by rw [len_of S2 N2]; exact k)) ?_
  refine own_iteT Rie (Kie Z zz a0 bv h0 n0) (fun hc5 => ?_) (fun hc5 => ?_)
  · skip
    refine op T1 (mkF m 13 #[rv a0] [(.int 1)]) (fun _ k => XS.ifNo X1.here hx rfl (hb hby d5_5) rfl ((if0 _ _).trans (teq hc5).2) (XS.iconst X1.here hx rfl (hb hby d5_8) (XS.goto X1.here hx rfl (pc0 := 9) (pc' := 13) rfl (hb hby d5_9) (by decide) (by decide) k))) ?_
    exact own_ret (w := (.int 1)) X1 hx Bd.notSynchronized Bd.returns rfl (Or.inl ⟨rfl, by simp, _, rfl⟩) (hb hby d5_13) (by rw [e1]; exact ⟨NF0, rfl⟩) (by decide) (by decide)
  · skip
    refine op T1 (mkF m 13 #[rv a0] [(.int 0)]) (fun _ k => XS.ifYes X1.here hx rfl (pc0 := 5) (pc' := 12) rfl (hb hby d5_5) rfl ((if0 _ _).trans (feq hc5).2) (by decide) (by decide) (XS.iconst X1.here hx rfl (hb hby d5_12) k)) ?_
    exact own_ret (w := (.int 0)) X1 hx Bd.notSynchronized Bd.returns rfl (Or.inl ⟨rfl, by simp, _, rfl⟩) (hb hby d5_13) (by rw [e1]; exact ⟨NF0, rfl⟩) (by decide) (by decide)
theorem ef_ie (m : MethodId) (a0 : Addr) : entryFrame m #[(.ref a0)] 1 = mkF m 0 #[rv a0] [] := by first | (simp [entryFrame, mkF, argsToLocals, Value.category]; done) | rfl
set_option maxRecDepth 65536 in
set_option maxHeartbeats 40000000 in
theorem rmie (l : Launch) (Z : State) (aw : Array Value) (hw : HW aw Z) (ws : List Jvm.Cond) (zz : Int32) (a0 bv : Addr) (h0 : Heap) (n0 : Nat) (SZ0 : n0 ≤ h0.size) (Gf : Fld Z h0 a0 cS "value" "[B" (.ref bv)) (Gx : own_Be Z h0 bv zz []) :
    MetFree l y10 (head1 (Jvm.Cond.code y10 Hc 1 (some .boolean) :: ws) Qie) (fun a U => a = #[(.ref a0)] ∧ Z.Warmed39 U.vm ∧ U.heap = h0) (fun _ _ _ _ _ => True) (fun _ U o U' => ∃ v L, o = .returned v ∧ own_Q (Rie (fie_0 zz)) (Kie Z zz a0 bv h0 n0 (fie_0 zz)) v U'.heap L ∧ FrameEnd U o U' L Qie.cells Qie.slots) := by
  refine MetFree.of_bodySF (plainFor_of_name own_pn3) hisR ?_
  intro p e s m args below meth c s₁ Bd hml0 hP hK
  obtain ⟨rfl, hZ, hh⟩ := hP
  have hml : c.maxLocals = 1 := hml0
  have e0 : s₁.heap = h0 := by rw [← hh, Bd.state]; rfl
  exact own_pre (fun t k => castTop (ef_ie m a0) k) (gie_0 hw zz a0 bv Bd hml hZ s₁ (Stand.of_body Bd) e0 SZ0 rfl Gf Gx)
abbrev Qch1 : Room := { frames := 4, cells := 0, slots := 0, locals := 85 }
theorem own_pd6 : parseMethodDescriptor "()Z" = some ⟨[], some .boolean⟩ := by decide +kernel
/-! body 12, ch1 -/
theorem d12_0 : De Gy 0 (.aload_n 0) 1 := by decide +kernel
theorem d12_1 : De Gy 1 (.invokevirtual 492) 3 := by decide +kernel
theorem d12_4 : De Gy 4 (.ifCond .eq 12) 3 := by decide +kernel
theorem d12_16 : De Gy 16 (.aload_n 0) 1 := by decide +kernel
theorem d12_17 : De Gy 17 (.getfield 9) 3 := by decide +kernel
theorem d12_20 : De Gy 20 (.iload_n 1) 1 := by decide +kernel
theorem d12_21 : De Gy 21 (.invokestatic 498) 3 := by decide +kernel
theorem d12_24 : De Gy 24 (.ireturn) 1 := by decide +kernel
abbrev y11 : MethodName := ⟨cS, "charAt", "(I)C"⟩
def Rch1 (t : Int32) : Option Value := some (.int t)
def Kch1 (Z : State) (p1 zz b1 b2 : Int32) (a0 bv : Addr) (h0 : Heap) (n0 : Nat) (t : Int32) (h : Heap) (L : List Loc) : Prop := own_K0 h0 h L
def fch1_0 (p1 zz b1 b2 : Int32) : Int32 := (nar .char (fuch_0 p1 zz b1 b2))
set_option maxRecDepth 65536 in
set_option maxHeartbeats 40000000 in
theorem gch1_0 (hw : HW aw Z) {h0 : Heap} {n0 : Nat} (p1 zz b1 b2 : Int32) (a0 bv : Addr) (h1 : ¬ (p1 <<< ((1 : Int32) &&& 31)) < (0 : Int32)) (h2 : (p1 <<< ((1 : Int32) &&& 31)) < zz) (h3 : ¬ ((p1 <<< ((1 : Int32) &&& 31)) + (1 : Int32)) < (0 : Int32)) (h4 : ((p1 <<< ((1 : Int32) &&& 31)) + (1 : Int32)) < zz) (g1 : ¬ p1 < (0 : Int32)) (g2 : p1 < (ful_0 zz))
    (Bd : BodyLoose p l y11 (head1 (Jvm.Cond.code y11 Gy 2 (some .char) :: ws) Qch1) Gy 2 (some .char) e s m #[(.ref a0), (.int p1)] below meth c s₁) (hml : c.maxLocals = 2) (hZ : Z.Warmed39 s.vm) (T0 : State) {locs : List Loc} (X0 : Stand p l e Qch1 s m #[(.ref a0), (.int p1)] below meth c T0 locs 0 0) (e0 : T0.heap = h0) (SZ0 : n0 ≤ h0.size) (NF0 : locs = []) (Ga : Exa Z h0 a0 cS) (Gf : Fld Z h0 a0 cS "value" "[B" (.ref bv)) (Gc : Fld Z h0 a0 cS "coder" "B" (.int 1)) (Gx : own_Be Z h0 bv zz [((p1 <<< ((1 : Int32) &&& 31)), b1), (((p1 <<< ((1 : Int32) &&& 31)) + (1 : Int32)), b2)]) (J0 : own_J Z h0) :
    own_Go p e below s Qch1.cells Qch1.slots (Rch1 (fch1_0 p1 zz b1 b2)) (Kch1 Z p1 zz b1 b2 a0 bv h0 n0 (fch1_0 p1 zz b1 b2)) (T0.setTop (mkF m 0 #[rv a0, iv p1] [])) := by
  have hx := Bd.exec
  have hby := Bd.bytes
  have hown : s.vm.findClass cS = some m.cls := findClass_of_methodNamed Bd.named
  have hnm := (name_of_methodNamed Bd.named Bd.method).1
  unfold fch1_0
  refine op T0 (mkF m 1 #[rv a0, iv p1] [(.ref a0)]) (fun _ k => XS.aloadN X0.here hx rfl (hb hby d12_0) rfl rfl k) ?_
  obtain ⟨cq1, kq1, qa1, qb1, qc1⟩ := isOf hZ e0 Ga
  obtain ⟨_, _, ⟨T1, L1, k1, n1⟩, -, X1', ⟨Lc1, hQ1, l1, y1, z1⟩, st'⟩ := X0.virtualBack hx (y := y7) (z := y7) hown (mvT hZ (ow hw 62 rfl)) (mvT hZ (ow hw 63 rfl)) (notFace_of_selects (args := #[]) (mvT hZ (ow hw 65 rfl))) (mvT hZ (ow hw 65 rfl)) (mvT hZ (ow hw 64 rfl)) (by decide) (backOf (W := 0) (rmil1 l Z aw hw []  a0 h0 n0 SZ0 Gc J0) hZ (ow hw 66 rfl) (ow hw 4 rfl) (by decide) (by decide)) qa1 qc1 (g := (mkF m 1 #[rv a0, iv p1] [(.ref a0)])) rfl (by rw [hml]; rfl) (Steps.refl _) (argsL := []) (rest := []) (lenOf own_pd6 rfl) rfl (by show 2 * 0 + _ ≤ _; exact Nat.le_of_eq rfl) (hb hby d12_1) (fun _ _ => ⟨rfl, e0, (by decide : 0 + 0 ≤ _), (by decide : 0 + 0 ≤ _)⟩)
  dsimp only [Pt.U, Pt.locs, Pt.cells, Pt.slots] at X1' l1 y1 z1 st' hQ1
  subst l1 y1 z1
  obtain ⟨rfl, rfl, e1⟩ := hQ1
  have X1 : Stand p l e Qch1 s m #[(.ref a0), (.int p1)] below meth c T1 _ 0 0 := own_locs X1'
  refine op T1 (mkF m 4 #[rv a0, iv p1] [(.int fil1_0)]) (fun _ k => st'.trans k) ?_
  have hc4 : fil1_0 = (0 : Int32) := (show (0 : Int32) = 0 from rfl)
  refine op T1 (mkF m 17 #[rv a0, iv p1] [(.ref a0)]) (fun _ k => XS.ifYes X1.here hx rfl (pc0 := 4) (pc' := 16) rfl (hb hby d12_4) rfl ((if0 _ _).trans (teq hc4).1) (by decide) (by decide) (XS.aloadN X1.here hx rfl (hb hby d12_16) rfl rfl k)) ?_
  obtain ⟨T2, X2, e2, st'⟩ := getF X1 hx hZ hown (host := "") (Or.inl (ow hw 21 rfl)) Via.refl e1 Gf (g := (mkF m 17 #[rv a0, iv p1] [(.ref a0)])) rfl rfl (hb hby d12_17)
  refine op T2 (mkF m 21 #[rv a0, iv p1] [(.int p1), (.ref bv)]) (fun _ k => st' _ (XS.iloadN X2.here hx rfl (hb hby d12_20) rfl k)) ?_
  obtain ⟨_, _, ⟨T3, L3, k3, n3⟩, -, X3', ⟨Lc3, hQ3, l3, y3, z3⟩, st'⟩ := Jvm.LawKit.callS X2 hx (y := y5) hown (mvT hZ (ow hw 126 rfl)) (mvT hZ (ow hw 127 rfl)) (mvT hZ (ow hw 35 rfl)) (mvT hZ (ow hw 128 rfl)) (by decide) (backOf (W := 0) (rmuch l Z aw hw [] p1 zz b1 b2 bv h0 n0 SZ0 Gx J0 h1 h2 h3 h4 g1 g2) hZ (ow hw 128 rfl) (ow hw 35 rfl) (by decide) (by decide)) (g := (mkF m 21 #[rv a0, iv p1] [(.int p1), (.ref bv)])) rfl (by rw [hml]; rfl) (argsL := [(.ref bv), (.int p1)]) (rest := []) (lenOf own_pd4 rfl) rfl (by show 2 * 0 + _ ≤ _; exact Nat.le_of_eq rfl) (hb hby d12_21) (fun _ _ => ⟨rfl, e2, (by decide : 0 + 0 ≤ _), (by decide : 0 + 0 ≤ _)⟩)
  dsimp only [Pt.U, Pt.locs, Pt.cells, Pt.slots] at X3' l3 y3 z3 st' hQ3
  subst l3 y3 z3
  obtain ⟨rfl, rfl, e3⟩ := hQ3
  have X3 : Stand p l e Qch1 s m #[(.ref a0), (.int p1)] below meth c T3 _ 0 0 := own_locs X3'
  refine op T3 (mkF m 24 #[rv a0, iv p1] [(.int (fuch_0 p1 zz b1 b2))]) (fun _ k => st' _ k) ?_
  exact own_retN X3 hx Bd.notSynchronized (t := .char) Bd.returns (by simp) (hb hby d12_24) (by rw [e3]; exact ⟨NF0, rfl⟩) (by decide) (by decide)
theorem ef_ch1 (m : MethodId) (a0 : Addr) (p1 : Int32) : entryFrame m #[(.ref a0), (.int p1)] 2 = mkF m 0 #[rv a0, iv p1] [] := by first | (simp [entryFrame, mkF, argsToLocals, Value.category]; done) | rfl
set_option maxRecDepth 65536 in
set_option maxHeartbeats 40000000 in
theorem rmch1 (l : Launch) (Z : State) (aw : Array Value) (hw : HW aw Z) (ws : List Jvm.Cond) (p1 zz b1 b2 : Int32) (a0 bv : Addr) (h0 : Heap) (n0 : Nat) (SZ0 : n0 ≤ h0.size) (Ga : Exa Z h0 a0 cS) (Gf : Fld Z h0 a0 cS "value" "[B" (.ref bv)) (Gc : Fld Z h0 a0 cS "coder" "B" (.int 1)) (Gx : own_Be Z h0 bv zz [((p1 <<< ((1 : Int32) &&& 31)), b1), (((p1 <<< ((1 : Int32) &&& 31)) + (1 : Int32)), b2)]) (J0 : own_J Z h0) (h1 : ¬ (p1 <<< ((1 : Int32) &&& 31)) < (0 : Int32)) (h2 : (p1 <<< ((1 : Int32) &&& 31)) < zz) (h3 : ¬ ((p1 <<< ((1 : Int32) &&& 31)) + (1 : Int32)) < (0 : Int32)) (h4 : ((p1 <<< ((1 : Int32) &&& 31)) + (1 : Int32)) < zz) (g1 : ¬ p1 < (0 : Int32)) (g2 : p1 < (ful_0 zz)) :
    MetFree l y11 (head1 (Jvm.Cond.code y11 Gy 2 (some .char) :: ws) Qch1) (fun a U => a = #[(.ref a0), (.int p1)] ∧ Z.Warmed39 U.vm ∧ U.heap = h0) (fun _ _ _ _ _ => True) (fun _ U o U' => ∃ v L, o = .returned v ∧ own_Q (Rch1 (fch1_0 p1 zz b1 b2)) (Kch1 Z p1 zz b1 b2 a0 bv h0 n0 (fch1_0 p1 zz b1 b2)) v U'.heap L ∧ FrameEnd U o U' L Qch1.cells Qch1.slots) := by
  refine MetFree.of_bodySF (plainFor_of_name own_pn3) hisR ?_
  intro p e s m args below meth c s₁ Bd hml0 hP hK
  obtain ⟨rfl, hZ, hh⟩ := hP
  have hml : c.maxLocals = 2 := hml0
  have e0 : s₁.heap = h0 := by rw [← hh, Bd.state]; rfl
  exact own_pre (fun t k => castTop (ef_ch1 m a0 p1) k) (gch1_0 hw p1 zz b1 b2 a0 bv h1 h2 h3 h4 g1 g2 Bd hml hZ s₁ (Stand.of_body Bd) e0 SZ0 rfl Ga Gf Gc Gx J0)
abbrev Qch0 : Room := { frames := 4, cells := 0, slots := 0, locals := 85 }
/-! body 12, ch0 -/
theorem d12_7 : De Gy 7 (.aload_n 0) 1 := by decide +kernel
theorem d12_8 : De Gy 8 (.getfield 9) 3 := by decide +kernel
theorem d12_11 : De Gy 11 (.iload_n 1) 1 := by decide +kernel
theorem d12_12 : De Gy 12 (.invokestatic 495) 3 := by decide +kernel
theorem d12_15 : De Gy 15 (.ireturn) 1 := by decide +kernel
def Rch0 (t : Int32) : Option Value := some (.int t)
def Kch0 (Z : State) (p1 zz b1 : Int32) (a0 bv : Addr) (h0 : Heap) (n0 : Nat) (t : Int32) (h : Heap) (L : List Loc) : Prop := own_K0 h0 h L
def fch0_0 (p1 zz b1 : Int32) : Int32 := (nar .char (flch_0 p1 zz b1))
set_option maxRecDepth 65536 in
set_option maxHeartbeats 40000000 in
theorem gch0_0 (hw : HW aw Z) {h0 : Heap} {n0 : Nat} (p1 zz b1 : Int32) (a0 bv : Addr) (h1 : ¬ p1 < (0 : Int32)) (h2 : p1 < zz)
    (Bd : BodyLoose p l y11 (head1 (Jvm.Cond.code y11 Gy 2 (some .char) :: ws) Qch0) Gy 2 (some .char) e s m #[(.ref a0), (.int p1)] below meth c s₁) (hml : c.maxLocals = 2) (hZ : Z.Warmed39 s.vm) (T0 : State) {locs : List Loc} (X0 : Stand p l e Qch0 s m #[(.ref a0), (.int p1)] below meth c T0 locs 0 0) (e0 : T0.heap = h0) (SZ0 : n0 ≤ h0.size) (NF0 : locs = []) (Ga : Exa Z h0 a0 cS) (Gf : Fld Z h0 a0 cS "value" "[B" (.ref bv)) (Gc : Fld Z h0 a0 cS "coder" "B" (.int 0)) (Gx : own_Be Z h0 bv zz [(p1, b1)]) (J0 : own_J Z h0) :
    own_Go p e below s Qch0.cells Qch0.slots (Rch0 (fch0_0 p1 zz b1)) (Kch0 Z p1 zz b1 a0 bv h0 n0 (fch0_0 p1 zz b1)) (T0.setTop (mkF m 0 #[rv a0, iv p1] [])) := by
  have hx := Bd.exec
  have hby := Bd.bytes
  have hown : s.vm.findClass cS = some m.cls := findClass_of_methodNamed Bd.named
  have hnm := (name_of_methodNamed Bd.named Bd.method).1
  unfold fch0_0
  refine op T0 (mkF m 1 #[rv a0, iv p1] [(.ref a0)]) (fun _ k => XS.aloadN X0.here hx rfl (hb hby d12_0) rfl rfl k) ?_
  obtain ⟨cq1, kq1, qa1, qb1, qc1⟩ := isOf hZ e0 Ga
  obtain ⟨_, _, ⟨T1, L1, k1, n1⟩, -, X1', ⟨Lc1, hQ1, l1, y1, z1⟩, st'⟩ := X0.virtualBack hx (y := y7) (z := y7) hown (mvT hZ (ow hw 62 rfl)) (mvT hZ (ow hw 63 rfl)) (notFace_of_selects (args := #[]) (mvT hZ (ow hw 65 rfl))) (mvT hZ (ow hw 65 rfl)) (mvT hZ (ow hw 64 rfl)) (by decide) (backOf (W := 0) (rmil0 l Z aw hw []  a0 h0 n0 SZ0 Gc J0) hZ (ow hw 66 rfl) (ow hw 4 rfl) (by decide) (by decide)) qa1 qc1 (g := (mkF m 1 #[rv a0, iv p1] [(.ref a0)])) rfl (by rw [hml]; rfl) (Steps.refl _) (argsL := []) (rest := []) (lenOf own_pd6 rfl) rfl (by show 2 * 0 + _ ≤ _; exact Nat.le_of_eq rfl) (hb hby d12_1) (fun _ _ => ⟨rfl, e0, (by decide : 0 + 0 ≤ _), (by decide : 0 + 0 ≤ _)⟩)
  dsimp only [Pt.U, Pt.locs, Pt.cells, Pt.slots] at X1' l1 y1 z1 st' hQ1
  subst l1 y1 z1
  obtain ⟨rfl, rfl, e1⟩ := hQ1
  have X1 : Stand p l e Qch0 s m #[(.ref a0), (.int p1)] below meth c T1 _ 0 0 := own_locs X1'
  refine op T1 (mkF m 4 #[rv a0, iv p1] [(.int fil0_0)]) (fun _ k => st'.trans k) ?_
  have hc4 : ¬ (fil0_0 = (0 : Int32)) := (show ¬ (1 : Int32) = 0 by decide)
  refine op T1 (mkF m 8 #[rv a0, iv p1] [(.ref a0)]) (fun _ k => XS.ifNo X1.here hx rfl (hb hby d12_4) rfl ((if0 _ _).trans (feq hc4).1) (XS.aloadN X1.here hx rfl (hb hby d12_7) rfl rfl k)) ?_
  obtain ⟨T2, X2, e2, st'⟩ := getF X1 hx hZ hown (host := "") (Or.inl (ow hw 21 rfl)) Via.refl e1 Gf (g := (mkF m 8 #[rv a0, iv p1] [(.ref a0)])) rfl rfl (hb hby d12_8)
  refine op T2 (mkF m 12 #[rv a0, iv p1] [(.int p1), (.ref bv)]) (fun _ k => st' _ (XS.iloadN X2.here hx rfl (hb hby d12_11) rfl k)) ?_
  obtain ⟨_, _, ⟨T3, L3, k3, n3⟩, -, X3', ⟨Lc3, hQ3, l3, y3, z3⟩, st'⟩ := Jvm.LawKit.callS X2 hx (y := y6) hown (mvT hZ (ow hw 67 rfl)) (mvT hZ (ow hw 68 rfl)) (mvT hZ (ow hw 69 rfl)) (mvT hZ (ow hw 70 rfl)) (by decide) (backOf (W := 0) (rmlch l Z aw hw [] p1 zz b1 bv h0 n0 SZ0 Gx J0 h1 h2) hZ (ow hw 70 rfl) (ow hw 69 rfl) (by decide) (by decide)) (g := (mkF m 12 #[rv a0, iv p1] [(.int p1), (.ref bv)])) rfl (by rw [hml]; rfl) (argsL := [(.ref bv), (.int p1)]) (rest := []) (lenOf own_pd4 rfl) rfl (by show 2 * 0 + _ ≤ _; exact Nat.le_of_eq rfl) (hb hby d12_12) (fun _ _ => ⟨rfl, e2, (by decide : 0 + 0 ≤ _), (by decide : 0 + 0 ≤ _)⟩)
  dsimp only [Pt.U, Pt.locs, Pt.cells, Pt.slots] at X3' l3 y3 z3 st' hQ3
  subst l3 y3 z3
  obtain ⟨rfl, rfl, e3⟩ := hQ3
  have X3 : Stand p l e Qch0 s m #[(.ref a0), (.int p1)] below meth c T3 _ 0 0 := own_locs X3'
  refine op T3 (mkF m 15 #[rv a0, iv p1] [(.int (flch_0 p1 zz b1))]) (fun _ k => st' _ k) ?_
  exact own_retN X3 hx Bd.notSynchronized (t := .char) Bd.returns (by simp) (hb hby d12_15) (by rw [e3]; exact ⟨NF0, rfl⟩) (by decide) (by decide)
theorem ef_ch0 (m : MethodId) (a0 : Addr) (p1 : Int32) : entryFrame m #[(.ref a0), (.int p1)] 2 = mkF m 0 #[rv a0, iv p1] [] := by first | (simp [entryFrame, mkF, argsToLocals, Value.category]; done) | rfl
set_option maxRecDepth 65536 in
set_option maxHeartbeats 40000000 in
theorem rmch0 (l : Launch) (Z : State) (aw : Array Value) (hw : HW aw Z) (ws : List Jvm.Cond) (p1 zz b1 : Int32) (a0 bv : Addr) (h0 : Heap) (n0 : Nat) (SZ0 : n0 ≤ h0.size) (Ga : Exa Z h0 a0 cS) (Gf : Fld Z h0 a0 cS "value" "[B" (.ref bv)) (Gc : Fld Z h0 a0 cS "coder" "B" (.int 0)) (Gx : own_Be Z h0 bv zz [(p1, b1)]) (J0 : own_J Z h0) (h1 : ¬ p1 < (0 : Int32)) (h2 : p1 < zz) :
    MetFree l y11 (head1 (Jvm.Cond.code y11 Gy 2 (some .char) :: ws) Qch0) (fun a U => a = #[(.ref a0), (.int p1)] ∧ Z.Warmed39 U.vm ∧ U.heap = h0) (fun _ _ _ _ _ => True) (fun _ U o U' => ∃ v L, o = .returned v ∧ own_Q (Rch0 (fch0_0 p1 zz b1)) (Kch0 Z p1 zz b1 a0 bv h0 n0 (fch0_0 p1 zz b1)) v U'.heap L ∧ FrameEnd U o U' L Qch0.cells Qch0.slots) := by
  refine MetFree.of_bodySF (plainFor_of_name own_pn3) hisR ?_
  intro p e s m args below meth c s₁ Bd hml0 hP hK
  obtain ⟨rfl, hZ, hh⟩ := hP
  have hml : c.maxLocals = 2 := hml0
  have e0 : s₁.heap = h0 := by rw [← hh, Bd.state]; rfl
  exact own_pre (fun t k => castTop (ef_ch0 m a0 p1) k) (gch0_0 hw p1 zz b1 a0 bv h1 h2 Bd hml hZ s₁ (Stand.of_body Bd) e0 SZ0 rfl Ga Gf Gc Gx J0)
abbrev Qioc : Room := { frames := 0, cells := 0, slots := 0, locals := 0 }
/-! body 23, ioc -/
theorem d23_0 : De Gz 0 (.iload_n 1) 1 := by decide +kernel
theorem d23_1 : De Gz 1 (.i2b) 1 := by decide +kernel
theorem d23_2 : De Gz 2 (.istore 4) 2 := by decide +kernel
theorem d23_4 : De Gz 4 (.iload_n 2) 1 := by decide +kernel
theorem d23_5 : De Gz 5 (.istore 5) 2 := by decide +kernel
theorem d23_7 : De Gz 7 (.iload 5) 2 := by decide +kernel
theorem d23_9 : De Gz 9 (.iload_n 3) 1 := by decide +kernel
theorem d23_10 : De Gz 10 (.if_icmp .ge 21) 3 := by decide +kernel
theorem d23_13 : De Gz 13 (.aload_n 0) 1 := by decide +kernel
theorem d23_14 : De Gz 14 (.iload 5) 2 := by decide +kernel
theorem d23_16 : De Gz 16 (.baload) 1 := by decide +kernel
theorem d23_17 : De Gz 17 (.iload 4) 2 := by decide +kernel
theorem d23_19 : De Gz 19 (.if_icmp .ne 6) 3 := by decide +kernel
theorem d23_22 : De Gz 22 (.iload 5) 2 := by decide +kernel
theorem d23_24 : De Gz 24 (.ireturn) 1 := by decide +kernel
theorem d23_25 : De Gz 25 (.iinc 5 1) 3 := by decide +kernel
theorem d23_28 : De Gz 28 (.goto (-21)) 3 := by decide +kernel
theorem d23_31 : De Gz 31 (.iconst (-1)) 1 := by decide +kernel
theorem d23_32 : De Gz 32 (.ireturn) 1 := by decide +kernel
abbrev y12 : MethodName := ⟨cL1, "indexOfChar", "([BIII)I"⟩
def Rioc (t : Int32) : Option Value := some (.int t)
def Kioc (Z : State) (p1 : Int32) (a0 : Addr) (h0 : Heap) (n0 : Nat) (t : Int32) (h : Heap) (L : List Loc) : Prop := own_K0 h0 h L
def fioc_0 (p1 : Int32) : Int32 := (if (33 : Int32) = (p1.toInt8.toInt32) then (0 : Int32) else (if (35 : Int32) = (p1.toInt8.toInt32) then (1 : Int32) else (if (36 : Int32) = (p1.toInt8.toInt32) then (2 : Int32) else (if (37 : Int32) = (p1.toInt8.toInt32) then (3 : Int32) else (if (38 : Int32) = (p1.toInt8.toInt32) then (4 : Int32) else (if (39 : Int32) = (p1.toInt8.toInt32) then (5 : Int32) else (if (42 : Int32) = (p1.toInt8.toInt32) then (6 : Int32) else (if (43 : Int32) = (p1.toInt8.toInt32) then (7 : Int32) else (if (45 : Int32) = (p1.toInt8.toInt32) then (8 : Int32) else (if (46 : Int32) = (p1.toInt8.toInt32) then (9 : Int32) else (if (94 : Int32) = (p1.toInt8.toInt32) then (10 : Int32) else (if (95 : Int32) = (p1.toInt8.toInt32) then (11 : Int32) else (if (96 : Int32) = (p1.toInt8.toInt32) then (12 : Int32) else (if (124 : Int32) = (p1.toInt8.toInt32) then (13 : Int32) else (if (126 : Int32) = (p1.toInt8.toInt32) then (14 : Int32) else (-1 : Int32))))))))))))))))
set_option maxRecDepth 65536 in
set_option maxHeartbeats 40000000 in
theorem gioc_0 (hw : HW aw Z) {h0 : Heap} {n0 : Nat} (p1 : Int32) (a0 : Addr)
    (Bd : BodyLoose p l y12 (head1 (Jvm.Cond.code y12 Gz 6 (some .int) :: ws) Qioc) Gz 6 (some .int) e s m #[(.ref a0), (.int p1), (.int 0), (.int 15)] below meth c s₁) (hml : c.maxLocals = 6) (hZ : Z.Warmed39 s.vm) (T0 : State) {locs : List Loc} (X0 : Stand p l e Qioc s m #[(.ref a0), (.int p1), (.int 0), (.int 15)] below meth c T0 locs 0 0) (e0 : T0.heap = h0) (SZ0 : n0 ≤ h0.size) (NF0 : locs = []) (G0 : own_Pv Z h0 a0 (15 : Int32) [(33 : Int32), (35 : Int32), (36 : Int32), (37 : Int32), (38 : Int32), (39 : Int32), (42 : Int32), (43 : Int32), (45 : Int32), (46 : Int32), (94 : Int32), (95 : Int32), (96 : Int32), (124 : Int32), (126 : Int32)] .byte) :
    own_Go p e below s Qioc.cells Qioc.slots (Rioc (fioc_0 p1)) (Kioc Z p1 a0 h0 n0 (fioc_0 p1)) (T0.setTop (mkF m 0 #[rv a0, iv p1, iv 0, iv 15, uu, uu] [])) := by
  have hx := Bd.exec
  have hby := Bd.bytes
  have hown : s.vm.findClass cL1 = some m.cls := findClass_of_methodNamed Bd.named
  have hnm := (name_of_methodNamed Bd.named Bd.method).1
  unfold fioc_0
  refine op T0 (mkF m 10 #[rv a0, iv p1, iv 0, iv 15, iv (p1.toInt8.toInt32), iv 0] [(.int 15), (.int 0)]) (fun _ k => XS.iloadN X0.here hx rfl (hb hby d23_0) rfl (XS.i2b X0.here hx rfl (hb hby d23_1) rfl (XS.istore X0.here hx rfl (hb hby d23_2) rfl (l' := #[rv a0, iv p1, iv 0, iv 15, iv (p1.toInt8.toInt32), uu]) rfl (XS.iloadN X0.here hx rfl (hb hby d23_4) rfl (XS.istore X0.here hx rfl (hb hby d23_5) rfl (l' := #[rv a0, iv p1, iv 0, iv 15, iv (p1.toInt8.toInt32), iv 0]) rfl (XS.iload X0.here hx rfl (hb hby d23_7) rfl (XS.iloadN X0.here hx rfl (hb hby d23_9) rfl k))))))) ?_
  have hd1 : (0 : Int32) < (15 : Int32) := by decide
  refine op T0 (mkF m 16 #[rv a0, iv p1, iv 0, iv 15, iv (p1.toInt8.toInt32), iv 0] [(.int 0), (.ref a0)]) (fun _ k => XS.icmpNo X0.here hx rfl (hb hby d23_10) rfl (tlt hd1).2.1 (XS.aloadN X0.here hx rfl (hb hby d23_13) rfl rfl (XS.iload X0.here hx rfl (hb hby d23_14) rfl k))) ?_
  obtain ⟨k2, cl2, Ar2, q2, S2, N2, H2, G2⟩ := id G0
  have hin2 : ¬ ((0 : Int32) < 0 ∨ cl2.slots.size ≤ ((0 : Int32)).toNatClampNeg) := inb_of S2 ⟨by decide, by decide⟩
  refine op T0 (mkF m 17 #[rv a0, iv p1, iv 0, iv 15, iv (p1.toInt8.toInt32), iv 0] [(.int 33)]) (fun t k => X0.baloadBytes hx (j := (0 : Int32)) (v := (.int 33)) (by rw [e0]; exact Ar2.1) (State.isArrayOf_alike hZ.alike Ar2.2.1) Ar2.2.2 hin2 (H2.at hin2 rfl) (g := (mkF m 16 #[rv a0, iv p1, iv 0, iv 15, iv (p1.toInt8.toInt32), iv 0] [(.int 0), (.ref a0)])) rfl rfl (hb hby d23_16) t k) ?_
  refine op T0 (mkF m 19 #[rv a0, iv p1, iv 0, iv 15, iv (p1.toInt8.toInt32), iv 0] [(.int (p1.toInt8.toInt32)), (.int 33)]) (fun _ k => XS.iload X0.here hx rfl (hb hby d23_17) rfl k) ?_
  refine own_iteT Rioc (Kioc Z p1 a0 h0 n0) (fun hc19 => ?_) (fun hc19 => ?_)
  · skip
    refine op T0 (mkF m 24 #[rv a0, iv p1, iv 0, iv 15, iv (p1.toInt8.toInt32), iv 0] [(.int 0)]) (fun _ k => XS.icmpNo X0.here hx rfl (hb hby d23_19) rfl (teq hc19).2 (XS.iload X0.here hx rfl (hb hby d23_22) rfl k)) ?_
    exact own_ret (w := (.int 0)) X0 hx Bd.notSynchronized Bd.returns rfl (Or.inl ⟨rfl, by simp, _, rfl⟩) (hb hby d23_24) (by rw [e0]; exact ⟨NF0, rfl⟩) (by decide) (by decide)
  · skip
    refine op T0 (mkF m 10 #[rv a0, iv p1, iv 0, iv 15, iv (p1.toInt8.toInt32), iv 1] [(.int 15), (.int 1)]) (fun _ k => XS.icmpYes X0.here hx rfl (pc0 := 19) (pc' := 25) rfl (hb hby d23_19) rfl (feq hc19).2 (by decide) (by decide) (XS.iinc X0.here hx rfl (hb hby d23_25) rfl (l' := #[rv a0, iv p1, iv 0, iv 15, iv (p1.toInt8.toInt32), iv 1]) rfl (XS.goto X0.here hx rfl (pc0 := 28) (pc' := 7) rfl (hb hby d23_28) (by decide) (by decide) (XS.iload X0.here hx rfl (hb hby d23_7) rfl (XS.iloadN X0.here hx rfl (hb hby d23_9) rfl k))))) ?_
    have hd3 : (1 : Int32) < (15 : Int32) := by decide
    refine op T0 (mkF m 16 #[rv a0, iv p1, iv 0, iv 15, iv (p1.toInt8.toInt32), iv 1] [(.int 1), (.ref a0)]) (fun _ k => XS.icmpNo X0.here hx rfl (hb hby d23_10) rfl (tlt hd3).2.1 (XS.aloadN X0.here hx rfl (hb hby d23_13) rfl rfl (XS.iload X0.here hx rfl (hb hby d23_14) rfl k))) ?_
    obtain ⟨k4, cl4, Ar4, q4, S4, N4, H4, G4⟩ := id G0
    have hin4 : ¬ ((1 : Int32) < 0 ∨ cl4.slots.size ≤ ((1 : Int32)).toNatClampNeg) := inb_of S4 ⟨by decide, by decide⟩
    refine op T0 (mkF m 17 #[rv a0, iv p1, iv 0, iv 15, iv (p1.toInt8.toInt32), iv 1] [(.int 35)]) (fun t k => X0.baloadBytes hx (j := (1 : Int32)) (v := (.int 35)) (by rw [e0]; exact Ar4.1) (State.isArrayOf_alike hZ.alike Ar4.2.1) Ar4.2.2 hin4 (H4.at hin4 rfl) (g := (mkF m 16 #[rv a0, iv p1, iv 0, iv 15, iv (p1.toInt8.toInt32), iv 1] [(.int 1), (.ref a0)])) rfl rfl (hb hby d23_16) t k) ?_
    refine op T0 (mkF m 19 #[rv a0, iv p1, iv 0, iv 15, iv (p1.toInt8.toInt32), iv 1] [(.int (p1.toInt8.toInt32)), (.int 35)]) (fun _ k => XS.iload X0.here hx rfl (hb hby d23_17) rfl k) ?_
    refine own_iteT Rioc (Kioc Z p1 a0 h0 n0) (fun hc19 => ?_) (fun hc19 => ?_)
    · skip
      refine op T0 (mkF m 24 #[rv a0, iv p1, iv 0, iv 15, iv (p1.toInt8.toInt32), iv 1] [(.int 1)]) (fun _ k => XS.icmpNo X0.here hx rfl (hb hby d23_19) rfl (teq hc19).2 (XS.iload X0.here hx rfl (hb hby d23_22) rfl k)) ?_
      exact own_ret (w := (.int 1)) X0 hx Bd.notSynchronized Bd.returns rfl (Or.inl ⟨rfl, by simp, _, rfl⟩) (hb hby d23_24) (by rw [e0]; exact ⟨NF0, rfl⟩) (by decide) (by decide)
    · skip
      refine op T0 (mkF m 10 #[rv a0, iv p1, iv 0, iv 15, iv (p1.toInt8.toInt32), iv 2] [(.int 15), (.int 2)]) (fun _ k => XS.icmpYes X0.here hx rfl (pc0 := 19) (pc' := 25) rfl (hb hby d23_19) rfl (feq hc19).2 (by decide) (by decide) (XS.iinc X0.here hx rfl (hb hby d23_25) rfl (l' := #[rv a0, iv p1, iv 0, iv 15, iv (p1.toInt8.toInt32), iv 2]) rfl (XS.goto X0.here hx rfl (pc0 := 28) (pc' := 7) rfl (hb hby d23_28) (by decide) (by decide) (XS.iload X0.here hx rfl (hb hby d23_7) rfl (XS.iloadN X0.here hx rfl (hb hby d23_9) rfl k))))) ?_
      have hd5 : (2 : Int32) < (15 : Int32) := by decide
      refine op T0 (mkF m 16 #[rv a0, iv p1, iv 0, iv 15, iv (p1.toInt8.toInt32), iv 2] [(.int 2), (.ref a0)]) (fun _ k => XS.icmpNo X0.here hx rfl (hb hby d23_10) rfl (tlt hd5).2.1 (XS.aloadN X0.here hx rfl (hb hby d23_13) rfl rfl (XS.iload X0.here hx rfl (hb hby d23_14) rfl k))) ?_
      obtain ⟨k6, cl6, Ar6, q6, S6, N6, H6, G6⟩ := id G0
      have hin6 : ¬ ((2 : Int32) < 0 ∨ cl6.slots.size ≤ ((2 : Int32)).toNatClampNeg) := inb_of S6 ⟨by decide, by decide⟩
      refine op T0 (mkF m 17 #[rv a0, iv p1, iv 0, iv 15, iv (p1.toInt8.toInt32), iv 2] [(.int 36)]) (fun t k => X0.baloadBytes hx (j := (2 : Int32)) (v := (.int 36)) (by rw [e0]; exact Ar6.1) (State.isArrayOf_alike hZ.alike Ar6.2.1) Ar6.2.2 hin6 (H6.at hin6 rfl) (g := (mkF m 16 #[rv a0, iv p1, iv 0, iv 15, iv (p1.toInt8.toInt32), iv 2] [(.int 2), (.ref a0)])) rfl rfl (hb hby d23_16) t k) ?_
      refine op T0 (mkF m 19 #[rv a0, iv p1, iv 0, iv 15, iv (p1.toInt8.toInt32), iv 2] [(.int (p1.toInt8.toInt32)), (.int 36)]) (fun _ k => XS.iload X0.here hx rfl (hb hby d23_17) rfl k) ?_
      refine own_iteT Rioc (Kioc Z p1 a0 h0 n0) (fun hc19 => ?_) (fun hc19 => ?_)
      · skip
        refine op T0 (mkF m 24 #[rv a0, iv p1, iv 0, iv 15, iv (p1.toInt8.toInt32), iv 2] [(.int 2)]) (fun _ k => XS.icmpNo X0.here hx rfl (hb hby d23_19) rfl (teq hc19).2 (XS.iload X0.here hx rfl (hb hby d23_22) rfl k)) ?_
        exact own_ret (w := (.int 2)) X0 hx Bd.notSynchronized Bd.returns rfl (Or.inl ⟨rfl, by simp, _, rfl⟩) (hb hby d23_24) (by rw [e0]; exact ⟨NF0, rfl⟩) (by decide) (by decide)
      · skip
        refine op T0 (mkF m 10 #[rv a0, iv p1, iv 0, iv 15, iv (p1.toInt8.toInt32), iv 3] [(.int 15), (.int 3)]) (fun _ k => XS.icmpYes X0.here hx rfl (pc0 := 19) (pc' := 25) rfl (hb hby d23_19) rfl (feq hc19).2 (by decide) (by decide) (XS.iinc X0.here hx rfl (hb hby d23_25) rfl (l' := #[rv a0, iv p1, iv 0, iv 15, iv (p1.toInt8.toInt32), iv 3]) rfl (XS.goto X0.here hx rfl (pc0 := 28) (pc' := 7) rfl (hb hby d23_28) (by decide) (by decide) (XS.iload X0.here hx rfl (hb hby d23_7) rfl (XS.iloadN X0.here hx rfl (hb hby d23_9) rfl k))))) ?_
        have hd7 : (3 : Int32) < (15 : Int32) := by decide
        refine op T0 (mkF m 16 #[rv a0, iv p1, iv 0, iv 15, iv (p1.toInt8.toInt32), iv 3] [(.int 3), (.ref a0)]) (fun _ k => XS.icmpNo X0.here hx rfl (hb hby d23_10) rfl (tlt hd7).2.1 (XS.aloadN X0.here hx rfl (hb hby d23_13) rfl rfl (XS.iload X0.here hx rfl (hb hby d23_14) rfl k))) ?_
        obtain ⟨k8, cl8, Ar8, q8, S8, N8, H8, G8⟩ := id G0
        have hin8 : ¬ ((3 : Int32) < 0 ∨ cl8.slots.size ≤ ((3 : Int32)).toNatClampNeg) := inb_of S8 ⟨by decide, by decide⟩
        refine op T0 (mkF m 17 #[rv a0, iv p1, iv 0, iv 15, iv (p1.toInt8.toInt32), iv 3] [(.int 37)]) (fun t k => X0.baloadBytes hx (j := (3 : Int32)) (v := (.int 37)) (by rw [e0]; exact Ar8.1) (State.isArrayOf_alike hZ.alike Ar8.2.1) Ar8.2.2 hin8 (H8.at hin8 rfl) (g := (mkF m 16 #[rv a0, iv p1, iv 0, iv 15, iv (p1.toInt8.toInt32), iv 3] [(.int 3), (.ref a0)])) rfl rfl (hb hby d23_16) t k) ?_
        refine op T0 (mkF m 19 #[rv a0, iv p1, iv 0, iv 15, iv (p1.toInt8.toInt32), iv 3] [(.int (p1.toInt8.toInt32)), (.int 37)]) (fun _ k => XS.iload X0.here hx rfl (hb hby d23_17) rfl k) ?_
        refine own_iteT Rioc (Kioc Z p1 a0 h0 n0) (fun hc19 => ?_) (fun hc19 => ?_)
        · skip
          refine op T0 (mkF m 24 #[rv a0, iv p1, iv 0, iv 15, iv (p1.toInt8.toInt32), iv 3] [(.int 3)]) (fun _ k => XS.icmpNo X0.here hx rfl (hb hby d23_19) rfl (teq hc19).2 (XS.iload X0.here hx rfl (hb hby d23_22) rfl k)) ?_
          exact own_ret (w := (.int 3)) X0 hx Bd.notSynchronized Bd.returns rfl (Or.inl ⟨rfl, by simp, _, rfl⟩) (hb hby d23_24) (by rw [e0]; exact ⟨NF0, rfl⟩) (by decide) (by decide)
        · skip
          refine op T0 (mkF m 10 #[rv a0, iv p1, iv 0, iv 15, iv (p1.toInt8.toInt32), iv 4] [(.int 15), (.int 4)]) (fun _ k => XS.icmpYes X0.here hx rfl (pc0 := 19) (pc' := 25) rfl (hb hby d23_19) rfl (feq hc19).2 (by decide) (by decide) (XS.iinc X0.here hx rfl (hb hby d23_25) rfl (l' := #[rv a0, iv p1, iv 0, iv 15, iv (p1.toInt8.toInt32), iv 4]) rfl (XS.goto X0.here hx rfl (pc0 := 28) (pc' := 7) rfl (hb hby d23_28) (by decide) (by decide) (XS.iload X0.here hx rfl (hb hby d23_7) rfl (XS.iloadN X0.here hx rfl (hb hby d23_9) rfl k))))) ?_
          have hd9 : (4 : Int32) < (15 : Int32) := by decide
          refine op T0 (mkF m 16 #[rv a0, iv p1, iv 0, iv 15, iv (p1.toInt8.toInt32), iv 4] [(.int 4), (.ref a0)]) (fun _ k => XS.icmpNo X0.here hx rfl (hb hby d23_10) rfl (tlt hd9).2.1 (XS.aloadN X0.here hx rfl (hb hby d23_13) rfl rfl (XS.iload X0.here hx rfl (hb hby d23_14) rfl k))) ?_
          obtain ⟨k10, cl10, Ar10, q10, S10, N10, H10, G10⟩ := id G0
          have hin10 : ¬ ((4 : Int32) < 0 ∨ cl10.slots.size ≤ ((4 : Int32)).toNatClampNeg) := inb_of S10 ⟨by decide, by decide⟩
          refine op T0 (mkF m 17 #[rv a0, iv p1, iv 0, iv 15, iv (p1.toInt8.toInt32), iv 4] [(.int 38)]) (fun t k => X0.baloadBytes hx (j := (4 : Int32)) (v := (.int 38)) (by rw [e0]; exact Ar10.1) (State.isArrayOf_alike hZ.alike Ar10.2.1) Ar10.2.2 hin10 (H10.at hin10 rfl) (g := (mkF m 16 #[rv a0, iv p1, iv 0, iv 15, iv (p1.toInt8.toInt32), iv 4] [(.int 4), (.ref a0)])) rfl rfl (hb hby d23_16) t k) ?_
          refine op T0 (mkF m 19 #[rv a0, iv p1, iv 0, iv 15, iv (p1.toInt8.toInt32), iv 4] [(.int (p1.toInt8.toInt32)), (.int 38)]) (fun _ k => XS.iload X0.here hx rfl (hb hby d23_17) rfl k) ?_
          refine own_iteT Rioc (Kioc Z p1 a0 h0 n0) (fun hc19 => ?_) (fun hc19 => ?_)
          · skip
            refine op T0 (mkF m 24 #[rv a0, iv p1, iv 0, iv 15, iv (p1.toInt8.toInt32), iv 4] [(.int 4)]) (fun _ k => XS.icmpNo X0.here hx rfl (hb hby d23_19) rfl (teq hc19).2 (XS.iload X0.here hx rfl (hb hby d23_22) rfl k)) ?_
            exact own_ret (w := (.int 4)) X0 hx Bd.notSynchronized Bd.returns rfl (Or.inl ⟨rfl, by simp, _, rfl⟩) (hb hby d23_24) (by rw [e0]; exact ⟨NF0, rfl⟩) (by decide) (by decide)
          · skip
            refine op T0 (mkF m 10 #[rv a0, iv p1, iv 0, iv 15, iv (p1.toInt8.toInt32), iv 5] [(.int 15), (.int 5)]) (fun _ k => XS.icmpYes X0.here hx rfl (pc0 := 19) (pc' := 25) rfl (hb hby d23_19) rfl (feq hc19).2 (by decide) (by decide) (XS.iinc X0.here hx rfl (hb hby d23_25) rfl (l' := #[rv a0, iv p1, iv 0, iv 15, iv (p1.toInt8.toInt32), iv 5]) rfl (XS.goto X0.here hx rfl (pc0 := 28) (pc' := 7) rfl (hb hby d23_28) (by decide) (by decide) (XS.iload X0.here hx rfl (hb hby d23_7) rfl (XS.iloadN X0.here hx rfl (hb hby d23_9) rfl k))))) ?_
            have hd11 : (5 : Int32) < (15 : Int32) := by decide
            refine op T0 (mkF m 16 #[rv a0, iv p1, iv 0, iv 15, iv (p1.toInt8.toInt32), iv 5] [(.int 5), (.ref a0)]) (fun _ k => XS.icmpNo X0.here hx rfl (hb hby d23_10) rfl (tlt hd11).2.1 (XS.aloadN X0.here hx rfl (hb hby d23_13) rfl rfl (XS.iload X0.here hx rfl (hb hby d23_14) rfl k))) ?_
            obtain ⟨k12, cl12, Ar12, q12, S12, N12, H12, G12⟩ := id G0
            have hin12 : ¬ ((5 : Int32) < 0 ∨ cl12.slots.size ≤ ((5 : Int32)).toNatClampNeg) := inb_of S12 ⟨by decide, by decide⟩
            refine op T0 (mkF m 17 #[rv a0, iv p1, iv 0, iv 15, iv (p1.toInt8.toInt32), iv 5] [(.int 39)]) (fun t k => X0.baloadBytes hx (j := (5 : Int32)) (v := (.int 39)) (by rw [e0]; exact Ar12.1) (State.isArrayOf_alike hZ.alike Ar12.2.1) Ar12.2.2 hin12 (H12.at hin12 rfl) (g := (mkF m 16 #[rv a0, iv p1, iv 0, iv 15, iv (p1.toInt8.toInt32), iv 5] [(.int 5), (.ref a0)])) rfl rfl (hb hby d23_16) t k) ?_
            refine op T0 (mkF m 19 #[rv a0, iv p1, iv 0, iv 15, iv (p1.toInt8.toInt32), iv 5] [(.int (p1.toInt8.toInt32)), (.int 39)]) (fun _ k => XS.iload X0.here hx rfl (hb hby d23_17) rfl k) ?_
            refine own_iteT Rioc (Kioc Z p1 a0 h0 n0) (fun hc19 => ?_) (fun hc19 => ?_)
            · skip
              refine op T0 (mkF m 24 #[rv a0, iv p1, iv 0, iv 15, iv (p1.toInt8.toInt32), iv 5] [(.int 5)]) (fun _ k => XS.icmpNo X0.here hx rfl (hb hby d23_19) rfl (teq hc19).2 (XS.iload X0.here hx rfl (hb hby d23_22) rfl k)) ?_
              exact own_ret (w := (.int 5)) X0 hx Bd.notSynchronized Bd.returns rfl (Or.inl ⟨rfl, by simp, _, rfl⟩) (hb hby d23_24) (by rw [e0]; exact ⟨NF0, rfl⟩) (by decide) (by decide)
            · skip
              refine op T0 (mkF m 10 #[rv a0, iv p1, iv 0, iv 15, iv (p1.toInt8.toInt32), iv 6] [(.int 15), (.int 6)]) (fun _ k => XS.icmpYes X0.here hx rfl (pc0 := 19) (pc' := 25) rfl (hb hby d23_19) rfl (feq hc19).2 (by decide) (by decide) (XS.iinc X0.here hx rfl (hb hby d23_25) rfl (l' := #[rv a0, iv p1, iv 0, iv 15, iv (p1.toInt8.toInt32), iv 6]) rfl (XS.goto X0.here hx rfl (pc0 := 28) (pc' := 7) rfl (hb hby d23_28) (by decide) (by decide) (XS.iload X0.here hx rfl (hb hby d23_7) rfl (XS.iloadN X0.here hx rfl (hb hby d23_9) rfl k))))) ?_
              have hd13 : (6 : Int32) < (15 : Int32) := by decide
              refine op T0 (mkF m 16 #[rv a0, iv p1, iv 0, iv 15, iv (p1.toInt8.toInt32), iv 6] [(.int 6), (.ref a0)]) (fun _ k => XS.icmpNo X0.here hx rfl (hb hby d23_10) rfl (tlt hd13).2.1 (XS.aloadN X0.here hx rfl (hb hby d23_13) rfl rfl (XS.iload X0.here hx rfl (hb hby d23_14) rfl k))) ?_
              obtain ⟨k14, cl14, Ar14, q14, S14, N14, H14, G14⟩ := id G0
              have hin14 : ¬ ((6 : Int32) < 0 ∨ cl14.slots.size ≤ ((6 : Int32)).toNatClampNeg) := inb_of S14 ⟨by decide, by decide⟩
              refine op T0 (mkF m 17 #[rv a0, iv p1, iv 0, iv 15, iv (p1.toInt8.toInt32), iv 6] [(.int 42)]) (fun t k => X0.baloadBytes hx (j := (6 : Int32)) (v := (.int 42)) (by rw [e0]; exact Ar14.1) (State.isArrayOf_alike hZ.alike Ar14.2.1) Ar14.2.2 hin14 (H14.at hin14 rfl) (g := (mkF m 16 #[rv a0, iv p1, iv 0, iv 15, iv (p1.toInt8.toInt32), iv 6] [(.int 6), (.ref a0)])) rfl rfl (hb hby d23_16) t k) ?_
              refine op T0 (mkF m 19 #[rv a0, iv p1, iv 0, iv 15, iv (p1.toInt8.toInt32), iv 6] [(.int (p1.toInt8.toInt32)), (.int 42)]) (fun _ k => XS.iload X0.here hx rfl (hb hby d23_17) rfl k) ?_
              refine own_iteT Rioc (Kioc Z p1 a0 h0 n0) (fun hc19 => ?_) (fun hc19 => ?_)
              · skip
                refine op T0 (mkF m 24 #[rv a0, iv p1, iv 0, iv 15, iv (p1.toInt8.toInt32), iv 6] [(.int 6)]) (fun _ k => XS.icmpNo X0.here hx rfl (hb hby d23_19) rfl (teq hc19).2 (XS.iload X0.here hx rfl (hb hby d23_22) rfl k)) ?_
                exact own_ret (w := (.int 6)) X0 hx Bd.notSynchronized Bd.returns rfl (Or.inl ⟨rfl, by simp, _, rfl⟩) (hb hby d23_24) (by rw [e0]; exact ⟨NF0, rfl⟩) (by decide) (by decide)
              · skip
                refine op T0 (mkF m 10 #[rv a0, iv p1, iv 0, iv 15, iv (p1.toInt8.toInt32), iv 7] [(.int 15), (.int 7)]) (fun _ k => XS.icmpYes X0.here hx rfl (pc0 := 19) (pc' := 25) rfl (hb hby d23_19) rfl (feq hc19).2 (by decide) (by decide) (XS.iinc X0.here hx rfl (hb hby d23_25) rfl (l' := #[rv a0, iv p1, iv 0, iv 15, iv (p1.toInt8.toInt32), iv 7]) rfl (XS.goto X0.here hx rfl (pc0 := 28) (pc' := 7) rfl (hb hby d23_28) (by decide) (by decide) (XS.iload X0.here hx rfl (hb hby d23_7) rfl (XS.iloadN X0.here hx rfl (hb hby d23_9) rfl k))))) ?_
                have hd15 : (7 : Int32) < (15 : Int32) := by decide
                refine op T0 (mkF m 16 #[rv a0, iv p1, iv 0, iv 15, iv (p1.toInt8.toInt32), iv 7] [(.int 7), (.ref a0)]) (fun _ k => XS.icmpNo X0.here hx rfl (hb hby d23_10) rfl (tlt hd15).2.1 (XS.aloadN X0.here hx rfl (hb hby d23_13) rfl rfl (XS.iload X0.here hx rfl (hb hby d23_14) rfl k))) ?_
                obtain ⟨k16, cl16, Ar16, q16, S16, N16, H16, G16⟩ := id G0
                have hin16 : ¬ ((7 : Int32) < 0 ∨ cl16.slots.size ≤ ((7 : Int32)).toNatClampNeg) := inb_of S16 ⟨by decide, by decide⟩
                refine op T0 (mkF m 17 #[rv a0, iv p1, iv 0, iv 15, iv (p1.toInt8.toInt32), iv 7] [(.int 43)]) (fun t k => X0.baloadBytes hx (j := (7 : Int32)) (v := (.int 43)) (by rw [e0]; exact Ar16.1) (State.isArrayOf_alike hZ.alike Ar16.2.1) Ar16.2.2 hin16 (H16.at hin16 rfl) (g := (mkF m 16 #[rv a0, iv p1, iv 0, iv 15, iv (p1.toInt8.toInt32), iv 7] [(.int 7), (.ref a0)])) rfl rfl (hb hby d23_16) t k) ?_
                refine op T0 (mkF m 19 #[rv a0, iv p1, iv 0, iv 15, iv (p1.toInt8.toInt32), iv 7] [(.int (p1.toInt8.toInt32)), (.int 43)]) (fun _ k => XS.iload X0.here hx rfl (hb hby d23_17) rfl k) ?_
                refine own_iteT Rioc (Kioc Z p1 a0 h0 n0) (fun hc19 => ?_) (fun hc19 => ?_)
                · skip
                  refine op T0 (mkF m 24 #[rv a0, iv p1, iv 0, iv 15, iv (p1.toInt8.toInt32), iv 7] [(.int 7)]) (fun _ k => XS.icmpNo X0.here hx rfl (hb hby d23_19) rfl (teq hc19).2 (XS.iload X0.here hx rfl (hb hby d23_22) rfl k)) ?_
                  exact own_ret (w := (.int 7)) X0 hx Bd.notSynchronized Bd.returns rfl (Or.inl ⟨rfl, by simp, _, rfl⟩) (hb hby d23_24) (by rw [e0]; exact ⟨NF0, rfl⟩) (by decide) (by decide)
                · skip
                  refine op T0 (mkF m 10 #[rv a0, iv p1, iv 0, iv 15, iv (p1.toInt8.toInt32), iv 8] [(.int 15), (.int 8)]) (fun _ k => XS.icmpYes X0.here hx rfl (pc0 := 19) (pc' := 25) rfl (hb hby d23_19) rfl (feq hc19).2 (by decide) (by decide) (XS.iinc X0.here hx rfl (hb hby d23_25) rfl (l' := #[rv a0, iv p1, iv 0, iv 15, iv (p1.toInt8.toInt32), iv 8]) rfl (XS.goto X0.here hx rfl (pc0 := 28) (pc' := 7) rfl (hb hby d23_28) (by decide) (by decide) (XS.iload X0.here hx rfl (hb hby d23_7) rfl (XS.iloadN X0.here hx rfl (hb hby d23_9) rfl k))))) ?_
                  have hd17 : (8 : Int32) < (15 : Int32) := by decide
                  refine op T0 (mkF m 16 #[rv a0, iv p1, iv 0, iv 15, iv (p1.toInt8.toInt32), iv 8] [(.int 8), (.ref a0)]) (fun _ k => XS.icmpNo X0.here hx rfl (hb hby d23_10) rfl (tlt hd17).2.1 (XS.aloadN X0.here hx rfl (hb hby d23_13) rfl rfl (XS.iload X0.here hx rfl (hb hby d23_14) rfl k))) ?_
                  obtain ⟨k18, cl18, Ar18, q18, S18, N18, H18, G18⟩ := id G0
                  have hin18 : ¬ ((8 : Int32) < 0 ∨ cl18.slots.size ≤ ((8 : Int32)).toNatClampNeg) := inb_of S18 ⟨by decide, by decide⟩
                  refine op T0 (mkF m 17 #[rv a0, iv p1, iv 0, iv 15, iv (p1.toInt8.toInt32), iv 8] [(.int 45)]) (fun t k => X0.baloadBytes hx (j := (8 : Int32)) (v := (.int 45)) (by rw [e0]; exact Ar18.1) (State.isArrayOf_alike hZ.alike Ar18.2.1) Ar18.2.2 hin18 (H18.at hin18 rfl) (g := (mkF m 16 #[rv a0, iv p1, iv 0, iv 15, iv (p1.toInt8.toInt32), iv 8] [(.int 8), (.ref a0)])) rfl rfl (hb hby d23_16) t k) ?_
                  refine op T0 (mkF m 19 #[rv a0, iv p1, iv 0, iv 15, iv (p1.toInt8.toInt32), iv 8] [(.int (p1.toInt8.toInt32)), (.int 45)]) (fun _ k => XS.iload X0.here hx rfl (hb hby d23_17) rfl k) ?_
                  refine own_iteT Rioc (Kioc Z p1 a0 h0 n0) (fun hc19 => ?_) (fun hc19 => ?_)
                  · skip
                    refine op T0 (mkF m 24 #[rv a0, iv p1, iv 0, iv 15, iv (p1.toInt8.toInt32), iv 8] [(.int 8)]) (fun _ k => XS.icmpNo X0.here hx rfl (hb hby d23_19) rfl (teq hc19).2 (XS.iload X0.here hx rfl (hb hby d23_22) rfl k)) ?_
                    exact own_ret (w := (.int 8)) X0 hx Bd.notSynchronized Bd.returns rfl (Or.inl ⟨rfl, by simp, _, rfl⟩) (hb hby d23_24) (by rw [e0]; exact ⟨NF0, rfl⟩) (by decide) (by decide)
                  · skip
                    refine op T0 (mkF m 10 #[rv a0, iv p1, iv 0, iv 15, iv (p1.toInt8.toInt32), iv 9] [(.int 15), (.int 9)]) (fun _ k => XS.icmpYes X0.here hx rfl (pc0 := 19) (pc' := 25) rfl (hb hby d23_19) rfl (feq hc19).2 (by decide) (by decide) (XS.iinc X0.here hx rfl (hb hby d23_25) rfl (l' := #[rv a0, iv p1, iv 0, iv 15, iv (p1.toInt8.toInt32), iv 9]) rfl (XS.goto X0.here hx rfl (pc0 := 28) (pc' := 7) rfl (hb hby d23_28) (by decide) (by decide) (XS.iload X0.here hx rfl (hb hby d23_7) rfl (XS.iloadN X0.here hx rfl (hb hby d23_9) rfl k))))) ?_
                    have hd19 : (9 : Int32) < (15 : Int32) := by decide
                    refine op T0 (mkF m 16 #[rv a0, iv p1, iv 0, iv 15, iv (p1.toInt8.toInt32), iv 9] [(.int 9), (.ref a0)]) (fun _ k => XS.icmpNo X0.here hx rfl (hb hby d23_10) rfl (tlt hd19).2.1 (XS.aloadN X0.here hx rfl (hb hby d23_13) rfl rfl (XS.iload X0.here hx rfl (hb hby d23_14) rfl k))) ?_
                    obtain ⟨k20, cl20, Ar20, q20, S20, N20, H20, G20⟩ := id G0
                    have hin20 : ¬ ((9 : Int32) < 0 ∨ cl20.slots.size ≤ ((9 : Int32)).toNatClampNeg) := inb_of S20 ⟨by decide, by decide⟩
                    refine op T0 (mkF m 17 #[rv a0, iv p1, iv 0, iv 15, iv (p1.toInt8.toInt32), iv 9] [(.int 46)]) (fun t k => X0.baloadBytes hx (j := (9 : Int32)) (v := (.int 46)) (by rw [e0]; exact Ar20.1) (State.isArrayOf_alike hZ.alike Ar20.2.1) Ar20.2.2 hin20 (H20.at hin20 rfl) (g := (mkF m 16 #[rv a0, iv p1, iv 0, iv 15, iv (p1.toInt8.toInt32), iv 9] [(.int 9), (.ref a0)])) rfl rfl (hb hby d23_16) t k) ?_
                    refine op T0 (mkF m 19 #[rv a0, iv p1, iv 0, iv 15, iv (p1.toInt8.toInt32), iv 9] [(.int (p1.toInt8.toInt32)), (.int 46)]) (fun _ k => XS.iload X0.here hx rfl (hb hby d23_17) rfl k) ?_
                    refine own_iteT Rioc (Kioc Z p1 a0 h0 n0) (fun hc19 => ?_) (fun hc19 => ?_)
                    · skip
                      refine op T0 (mkF m 24 #[rv a0, iv p1, iv 0, iv 15, iv (p1.toInt8.toInt32), iv 9] [(.int 9)]) (fun _ k => XS.icmpNo X0.here hx rfl (hb hby d23_19) rfl (teq hc19).2 (XS.iload X0.here hx rfl (hb hby d23_22) rfl k)) ?_
                      exact own_ret (w := (.int 9)) X0 hx Bd.notSynchronized Bd.returns rfl (Or.inl ⟨rfl, by simp, _, rfl⟩) (hb hby d23_24) (by rw [e0]; exact ⟨NF0, rfl⟩) (by decide) (by decide)
                    · skip
                      refine op T0 (mkF m 10 #[rv a0, iv p1, iv 0, iv 15, iv (p1.toInt8.toInt32), iv 10] [(.int 15), (.int 10)]) (fun _ k => XS.icmpYes X0.here hx rfl (pc0 := 19) (pc' := 25) rfl (hb hby d23_19) rfl (feq hc19).2 (by decide) (by decide) (XS.iinc X0.here hx rfl (hb hby d23_25) rfl (l' := #[rv a0, iv p1, iv 0, iv 15, iv (p1.toInt8.toInt32), iv 10]) rfl (XS.goto X0.here hx rfl (pc0 := 28) (pc' := 7) rfl (hb hby d23_28) (by decide) (by decide) (XS.iload X0.here hx rfl (hb hby d23_7) rfl (XS.iloadN X0.here hx rfl (hb hby d23_9) rfl k))))) ?_
                      have hd21 : (10 : Int32) < (15 : Int32) := by decide
                      refine op T0 (mkF m 16 #[rv a0, iv p1, iv 0, iv 15, iv (p1.toInt8.toInt32), iv 10] [(.int 10), (.ref a0)]) (fun _ k => XS.icmpNo X0.here hx rfl (hb hby d23_10) rfl (tlt hd21).2.1 (XS.aloadN X0.here hx rfl (hb hby d23_13) rfl rfl (XS.iload X0.here hx rfl (hb hby d23_14) rfl k))) ?_
                      obtain ⟨k22, cl22, Ar22, q22, S22, N22, H22, G22⟩ := id G0
                      have hin22 : ¬ ((10 : Int32) < 0 ∨ cl22.slots.size ≤ ((10 : Int32)).toNatClampNeg) := inb_of S22 ⟨by decide, by decide⟩
                      refine op T0 (mkF m 17 #[rv a0, iv p1, iv 0, iv 15, iv (p1.toInt8.toInt32), iv 10] [(.int 94)]) (fun t k => X0.baloadBytes hx (j := (10 : Int32)) (v := (.int 94)) (by rw [e0]; exact Ar22.1) (State.isArrayOf_alike hZ.alike Ar22.2.1) Ar22.2.2 hin22 (H22.at hin22 rfl) (g := (mkF m 16 #[rv a0, iv p1, iv 0, iv 15, iv (p1.toInt8.toInt32), iv 10] [(.int 10), (.ref a0)])) rfl rfl (hb hby d23_16) t k) ?_
                      refine op T0 (mkF m 19 #[rv a0, iv p1, iv 0, iv 15, iv (p1.toInt8.toInt32), iv 10] [(.int (p1.toInt8.toInt32)), (.int 94)]) (fun _ k => XS.iload X0.here hx rfl (hb hby d23_17) rfl k) ?_
                      refine own_iteT Rioc (Kioc Z p1 a0 h0 n0) (fun hc19 => ?_) (fun hc19 => ?_)
                      · skip
                        refine op T0 (mkF m 24 #[rv a0, iv p1, iv 0, iv 15, iv (p1.toInt8.toInt32), iv 10] [(.int 10)]) (fun _ k => XS.icmpNo X0.here hx rfl (hb hby d23_19) rfl (teq hc19).2 (XS.iload X0.here hx rfl (hb hby d23_22) rfl k)) ?_
                        exact own_ret (w := (.int 10)) X0 hx Bd.notSynchronized Bd.returns rfl (Or.inl ⟨rfl, by simp, _, rfl⟩) (hb hby d23_24) (by rw [e0]; exact ⟨NF0, rfl⟩) (by decide) (by decide)
                      · skip
                        refine op T0 (mkF m 10 #[rv a0, iv p1, iv 0, iv 15, iv (p1.toInt8.toInt32), iv 11] [(.int 15), (.int 11)]) (fun _ k => XS.icmpYes X0.here hx rfl (pc0 := 19) (pc' := 25) rfl (hb hby d23_19) rfl (feq hc19).2 (by decide) (by decide) (XS.iinc X0.here hx rfl (hb hby d23_25) rfl (l' := #[rv a0, iv p1, iv 0, iv 15, iv (p1.toInt8.toInt32), iv 11]) rfl (XS.goto X0.here hx rfl (pc0 := 28) (pc' := 7) rfl (hb hby d23_28) (by decide) (by decide) (XS.iload X0.here hx rfl (hb hby d23_7) rfl (XS.iloadN X0.here hx rfl (hb hby d23_9) rfl k))))) ?_
                        have hd23 : (11 : Int32) < (15 : Int32) := by decide
                        refine op T0 (mkF m 16 #[rv a0, iv p1, iv 0, iv 15, iv (p1.toInt8.toInt32), iv 11] [(.int 11), (.ref a0)]) (fun _ k => XS.icmpNo X0.here hx rfl (hb hby d23_10) rfl (tlt hd23).2.1 (XS.aloadN X0.here hx rfl (hb hby d23_13) rfl rfl (XS.iload X0.here hx rfl (hb hby d23_14) rfl k))) ?_
                        obtain ⟨k24, cl24, Ar24, q24, S24, N24, H24, G24⟩ := id G0
                        have hin24 : ¬ ((11 : Int32) < 0 ∨ cl24.slots.size ≤ ((11 : Int32)).toNatClampNeg) := inb_of S24 ⟨by decide, by decide⟩
                        refine op T0 (mkF m 17 #[rv a0, iv p1, iv 0, iv 15, iv (p1.toInt8.toInt32), iv 11] [(.int 95)]) (fun t k => X0.baloadBytes hx (j := (11 : Int32)) (v := (.int 95)) (by rw [e0]; exact Ar24.1) (State.isArrayOf_alike hZ.alike Ar24.2.1) Ar24.2.2 hin24 (H24.at hin24 rfl) (g := (mkF m 16 #[rv a0, iv p1, iv 0, iv 15, iv (p1.toInt8.toInt32), iv 11] [(.int 11), (.ref a0)])) rfl rfl (hb hby d23_16) t k) ?_
                        refine op T0 (mkF m 19 #[rv a0, iv p1, iv 0, iv 15, iv (p1.toInt8.toInt32), iv 11] [(.int (p1.toInt8.toInt32)), (.int 95)]) (fun _ k => XS.iload X0.here hx rfl (hb hby d23_17) rfl k) ?_
                        refine own_iteT Rioc (Kioc Z p1 a0 h0 n0) (fun hc19 => ?_) (fun hc19 => ?_)
                        · skip
                          refine op T0 (mkF m 24 #[rv a0, iv p1, iv 0, iv 15, iv (p1.toInt8.toInt32), iv 11] [(.int 11)]) (fun _ k => XS.icmpNo X0.here hx rfl (hb hby d23_19) rfl (teq hc19).2 (XS.iload X0.here hx rfl (hb hby d23_22) rfl k)) ?_
                          exact own_ret (w := (.int 11)) X0 hx Bd.notSynchronized Bd.returns rfl (Or.inl ⟨rfl, by simp, _, rfl⟩) (hb hby d23_24) (by rw [e0]; exact ⟨NF0, rfl⟩) (by decide) (by decide)
                        · skip
                          refine op T0 (mkF m 10 #[rv a0, iv p1, iv 0, iv 15, iv (p1.toInt8.toInt32), iv 12] [(.int 15), (.int 12)]) (fun _ k => XS.icmpYes X0.here hx rfl (pc0 := 19) (pc' := 25) rfl (hb hby d23_19) rfl (feq hc19).2 (by decide) (by decide) (XS.iinc X0.here hx rfl (hb hby d23_25) rfl (l' := #[rv a0, iv p1, iv 0, iv 15, iv (p1.toInt8.toInt32), iv 12]) rfl (XS.goto X0.here hx rfl (pc0 := 28) (pc' := 7) rfl (hb hby d23_28) (by decide) (by decide) (XS.iload X0.here hx rfl (hb hby d23_7) rfl (XS.iloadN X0.here hx rfl (hb hby d23_9) rfl k))))) ?_
                          have hd25 : (12 : Int32) < (15 : Int32) := by decide
                          refine op T0 (mkF m 16 #[rv a0, iv p1, iv 0, iv 15, iv (p1.toInt8.toInt32), iv 12] [(.int 12), (.ref a0)]) (fun _ k => XS.icmpNo X0.here hx rfl (hb hby d23_10) rfl (tlt hd25).2.1 (XS.aloadN X0.here hx rfl (hb hby d23_13) rfl rfl (XS.iload X0.here hx rfl (hb hby d23_14) rfl k))) ?_
                          obtain ⟨k26, cl26, Ar26, q26, S26, N26, H26, G26⟩ := id G0
                          have hin26 : ¬ ((12 : Int32) < 0 ∨ cl26.slots.size ≤ ((12 : Int32)).toNatClampNeg) := inb_of S26 ⟨by decide, by decide⟩
                          refine op T0 (mkF m 17 #[rv a0, iv p1, iv 0, iv 15, iv (p1.toInt8.toInt32), iv 12] [(.int 96)]) (fun t k => X0.baloadBytes hx (j := (12 : Int32)) (v := (.int 96)) (by rw [e0]; exact Ar26.1) (State.isArrayOf_alike hZ.alike Ar26.2.1) Ar26.2.2 hin26 (H26.at hin26 rfl) (g := (mkF m 16 #[rv a0, iv p1, iv 0, iv 15, iv (p1.toInt8.toInt32), iv 12] [(.int 12), (.ref a0)])) rfl rfl (hb hby d23_16) t k) ?_
                          refine op T0 (mkF m 19 #[rv a0, iv p1, iv 0, iv 15, iv (p1.toInt8.toInt32), iv 12] [(.int (p1.toInt8.toInt32)), (.int 96)]) (fun _ k => XS.iload X0.here hx rfl (hb hby d23_17) rfl k) ?_
                          refine own_iteT Rioc (Kioc Z p1 a0 h0 n0) (fun hc19 => ?_) (fun hc19 => ?_)
                          · skip
                            refine op T0 (mkF m 24 #[rv a0, iv p1, iv 0, iv 15, iv (p1.toInt8.toInt32), iv 12] [(.int 12)]) (fun _ k => XS.icmpNo X0.here hx rfl (hb hby d23_19) rfl (teq hc19).2 (XS.iload X0.here hx rfl (hb hby d23_22) rfl k)) ?_
                            exact own_ret (w := (.int 12)) X0 hx Bd.notSynchronized Bd.returns rfl (Or.inl ⟨rfl, by simp, _, rfl⟩) (hb hby d23_24) (by rw [e0]; exact ⟨NF0, rfl⟩) (by decide) (by decide)
                          · skip
                            refine op T0 (mkF m 10 #[rv a0, iv p1, iv 0, iv 15, iv (p1.toInt8.toInt32), iv 13] [(.int 15), (.int 13)]) (fun _ k => XS.icmpYes X0.here hx rfl (pc0 := 19) (pc' := 25) rfl (hb hby d23_19) rfl (feq hc19).2 (by decide) (by decide) (XS.iinc X0.here hx rfl (hb hby d23_25) rfl (l' := #[rv a0, iv p1, iv 0, iv 15, iv (p1.toInt8.toInt32), iv 13]) rfl (XS.goto X0.here hx rfl (pc0 := 28) (pc' := 7) rfl (hb hby d23_28) (by decide) (by decide) (XS.iload X0.here hx rfl (hb hby d23_7) rfl (XS.iloadN X0.here hx rfl (hb hby d23_9) rfl k))))) ?_
                            have hd27 : (13 : Int32) < (15 : Int32) := by decide
                            refine op T0 (mkF m 16 #[rv a0, iv p1, iv 0, iv 15, iv (p1.toInt8.toInt32), iv 13] [(.int 13), (.ref a0)]) (fun _ k => XS.icmpNo X0.here hx rfl (hb hby d23_10) rfl (tlt hd27).2.1 (XS.aloadN X0.here hx rfl (hb hby d23_13) rfl rfl (XS.iload X0.here hx rfl (hb hby d23_14) rfl k))) ?_
                            obtain ⟨k28, cl28, Ar28, q28, S28, N28, H28, G28⟩ := id G0
                            have hin28 : ¬ ((13 : Int32) < 0 ∨ cl28.slots.size ≤ ((13 : Int32)).toNatClampNeg) := inb_of S28 ⟨by decide, by decide⟩
                            refine op T0 (mkF m 17 #[rv a0, iv p1, iv 0, iv 15, iv (p1.toInt8.toInt32), iv 13] [(.int 124)]) (fun t k => X0.baloadBytes hx (j := (13 : Int32)) (v := (.int 124)) (by rw [e0]; exact Ar28.1) (State.isArrayOf_alike hZ.alike Ar28.2.1) Ar28.2.2 hin28 (H28.at hin28 rfl) (g := (mkF m 16 #[rv a0, iv p1, iv 0, iv 15, iv (p1.toInt8.toInt32), iv 13] [(.int 13), (.ref a0)])) rfl rfl (hb hby d23_16) t k) ?_
                            refine op T0 (mkF m 19 #[rv a0, iv p1, iv 0, iv 15, iv (p1.toInt8.toInt32), iv 13] [(.int (p1.toInt8.toInt32)), (.int 124)]) (fun _ k => XS.iload X0.here hx rfl (hb hby d23_17) rfl k) ?_
                            refine own_iteT Rioc (Kioc Z p1 a0 h0 n0) (fun hc19 => ?_) (fun hc19 => ?_)
                            · skip
                              refine op T0 (mkF m 24 #[rv a0, iv p1, iv 0, iv 15, iv (p1.toInt8.toInt32), iv 13] [(.int 13)]) (fun _ k => XS.icmpNo X0.here hx rfl (hb hby d23_19) rfl (teq hc19).2 (XS.iload X0.here hx rfl (hb hby d23_22) rfl k)) ?_
                              exact own_ret (w := (.int 13)) X0 hx Bd.notSynchronized Bd.returns rfl (Or.inl ⟨rfl, by simp, _, rfl⟩) (hb hby d23_24) (by rw [e0]; exact ⟨NF0, rfl⟩) (by decide) (by decide)
                            · skip
                              refine op T0 (mkF m 10 #[rv a0, iv p1, iv 0, iv 15, iv (p1.toInt8.toInt32), iv 14] [(.int 15), (.int 14)]) (fun _ k => XS.icmpYes X0.here hx rfl (pc0 := 19) (pc' := 25) rfl (hb hby d23_19) rfl (feq hc19).2 (by decide) (by decide) (XS.iinc X0.here hx rfl (hb hby d23_25) rfl (l' := #[rv a0, iv p1, iv 0, iv 15, iv (p1.toInt8.toInt32), iv 14]) rfl (XS.goto X0.here hx rfl (pc0 := 28) (pc' := 7) rfl (hb hby d23_28) (by decide) (by decide) (XS.iload X0.here hx rfl (hb hby d23_7) rfl (XS.iloadN X0.here hx rfl (hb hby d23_9) rfl k))))) ?_
                              have hd29 : (14 : Int32) < (15 : Int32) := by decide
                              refine op T0 (mkF m 16 #[rv a0, iv p1, iv 0, iv 15, iv (p1.toInt8.toInt32), iv 14] [(.int 14), (.ref a0)]) (fun _ k => XS.icmpNo X0.here hx rfl (hb hby d23_10) rfl (tlt hd29).2.1 (XS.aloadN X0.here hx rfl (hb hby d23_13) rfl rfl (XS.iload X0.here hx rfl (hb hby d23_14) rfl k))) ?_
                              obtain ⟨k30, cl30, Ar30, q30, S30, N30, H30, G30⟩ := id G0
                              have hin30 : ¬ ((14 : Int32) < 0 ∨ cl30.slots.size ≤ ((14 : Int32)).toNatClampNeg) := inb_of S30 ⟨by decide, by decide⟩
                              refine op T0 (mkF m 17 #[rv a0, iv p1, iv 0, iv 15, iv (p1.toInt8.toInt32), iv 14] [(.int 126)]) (fun t k => X0.baloadBytes hx (j := (14 : Int32)) (v := (.int 126)) (by rw [e0]; exact Ar30.1) (State.isArrayOf_alike hZ.alike Ar30.2.1) Ar30.2.2 hin30 (H30.at hin30 rfl) (g := (mkF m 16 #[rv a0, iv p1, iv 0, iv 15, iv (p1.toInt8.toInt32), iv 14] [(.int 14), (.ref a0)])) rfl rfl (hb hby d23_16) t k) ?_
                              refine op T0 (mkF m 19 #[rv a0, iv p1, iv 0, iv 15, iv (p1.toInt8.toInt32), iv 14] [(.int (p1.toInt8.toInt32)), (.int 126)]) (fun _ k => XS.iload X0.here hx rfl (hb hby d23_17) rfl k) ?_
                              refine own_iteT Rioc (Kioc Z p1 a0 h0 n0) (fun hc19 => ?_) (fun hc19 => ?_)
                              · skip
                                refine op T0 (mkF m 24 #[rv a0, iv p1, iv 0, iv 15, iv (p1.toInt8.toInt32), iv 14] [(.int 14)]) (fun _ k => XS.icmpNo X0.here hx rfl (hb hby d23_19) rfl (teq hc19).2 (XS.iload X0.here hx rfl (hb hby d23_22) rfl k)) ?_
                                exact own_ret (w := (.int 14)) X0 hx Bd.notSynchronized Bd.returns rfl (Or.inl ⟨rfl, by simp, _, rfl⟩) (hb hby d23_24) (by rw [e0]; exact ⟨NF0, rfl⟩) (by decide) (by decide)
                              · skip
                                refine op T0 (mkF m 10 #[rv a0, iv p1, iv 0, iv 15, iv (p1.toInt8.toInt32), iv 15] [(.int 15), (.int 15)]) (fun _ k => XS.icmpYes X0.here hx rfl (pc0 := 19) (pc' := 25) rfl (hb hby d23_19) rfl (feq hc19).2 (by decide) (by decide) (XS.iinc X0.here hx rfl (hb hby d23_25) rfl (l' := #[rv a0, iv p1, iv 0, iv 15, iv (p1.toInt8.toInt32), iv 15]) rfl (XS.goto X0.here hx rfl (pc0 := 28) (pc' := 7) rfl (hb hby d23_28) (by decide) (by decide) (XS.iload X0.here hx rfl (hb hby d23_7) rfl (XS.iloadN X0.here hx rfl (hb hby d23_9) rfl k))))) ?_
                                have hd31 : ¬ ((15 : Int32) < (15 : Int32)) := by decide
                                refine op T0 (mkF m 32 #[rv a0, iv p1, iv 0, iv 15, iv (p1.toInt8.toInt32), iv 15] [(.int (-1 : Int32))]) (fun _ k => XS.icmpYes X0.here hx rfl (pc0 := 10) (pc' := 31) rfl (hb hby d23_10) rfl (flt hd31).2.1 (by decide) (by decide) (XS.iconst X0.here hx rfl (hb hby d23_31) k)) ?_
                                exact own_ret (w := (.int (-1 : Int32))) X0 hx Bd.notSynchronized Bd.returns rfl (Or.inl ⟨rfl, by simp, _, rfl⟩) (hb hby d23_32) (by rw [e0]; exact ⟨NF0, rfl⟩) (by decide) (by decide)
theorem ef_ioc (m : MethodId) (a0 : Addr) (p1 : Int32) : entryFrame m #[(.ref a0), (.int p1), (.int 0), (.int 15)] 6 = mkF m 0 #[rv a0, iv p1, iv 0, iv 15, uu, uu] [] := by first | (simp [entryFrame, mkF, argsToLocals, Value.category]; done) | rfl
set_option maxRecDepth 65536 in
set_option maxHeartbeats 40000000 in
theorem rmioc (l : Launch) (Z : State) (aw : Array Value) (hw : HW aw Z) (ws : List Jvm.Cond) (p1 : Int32) (a0 : Addr) (h0 : Heap) (n0 : Nat) (SZ0 : n0 ≤ h0.size) (G0 : own_Pv Z h0 a0 (15 : Int32) [(33 : Int32), (35 : Int32), (36 : Int32), (37 : Int32), (38 : Int32), (39 : Int32), (42 : Int32), (43 : Int32), (45 : Int32), (46 : Int32), (94 : Int32), (95 : Int32), (96 : Int32), (124 : Int32), (126 : Int32)] .byte) :
    MetFree l y12 (head1 (Jvm.Cond.code y12 Gz 6 (some .int) :: ws) Qioc) (fun a U => a = #[(.ref a0), (.int p1), (.int 0), (.int 15)] ∧ Z.Warmed39 U.vm ∧ U.heap = h0) (fun _ _ _ _ _ => True) (fun _ U o U' => ∃ v L, o = .returned v ∧ own_Q (Rioc (fioc_0 p1)) (Kioc Z p1 a0 h0 n0 (fioc_0 p1)) v U'.heap L ∧ FrameEnd U o U' L Qioc.cells Qioc.slots) := by
  refine MetFree.of_bodySF (plainFor_of_name own_pn0) hisR ?_
  intro p e s m args below meth c s₁ Bd hml0 hP hK
  obtain ⟨rfl, hZ, hh⟩ := hP
  have hml : c.maxLocals = 6 := hml0
  have e0 : s₁.heap = h0 := by rw [← hh, Bd.state]; rfl
  exact own_pre (fun t k => castTop (ef_ioc m a0 p1) k) (gioc_0 hw p1 a0 Bd hml hZ s₁ (Stand.of_body Bd) e0 SZ0 rfl G0)
abbrev Qlio : Room := { frames := 1, cells := 0, slots := 0, locals := 25 }
theorem own_pd7 : parseMethodDescriptor "(I)Z" = some ⟨[.int], some .boolean⟩ := by decide +kernel
abbrev y13 : MethodName := ⟨cL1, "canEncode", "(I)Z"⟩
theorem own_pd8 : parseMethodDescriptor "(II)I" = some ⟨[.int, .int], some .int⟩ := by decide +kernel
abbrev y14 : MethodName := ⟨"java/lang/Math", "max", "(II)I"⟩
abbrev y15 : MethodName := ⟨"java/lang/Math", "min", "(II)I"⟩
theorem own_pd9 : parseMethodDescriptor "([BIII)I" = some ⟨[(.array .byte), .int, .int, .int], some .int⟩ := by decide +kernel
/-! body 19, lio -/
theorem d19_0 : De Gs 0 (.iload_n 1) 1 := by decide +kernel
theorem d19_1 : De Gs 1 (.invokestatic 88) 3 := by decide +kernel
theorem d19_4 : De Gs 4 (.ifCond .ne 5) 3 := by decide +kernel
theorem d19_7 : De Gs 7 (.iconst (-1)) 1 := by decide +kernel
theorem d19_8 : De Gs 8 (.ireturn) 1 := by decide +kernel
theorem d19_9 : De Gs 9 (.iload_n 2) 1 := by decide +kernel
theorem d19_10 : De Gs 10 (.iconst 0) 1 := by decide +kernel
theorem d19_11 : De Gs 11 (.invokestatic 92) 3 := by decide +kernel
theorem d19_14 : De Gs 14 (.istore_n 2) 1 := by decide +kernel
theorem d19_15 : De Gs 15 (.iload_n 3) 1 := by decide +kernel
theorem d19_16 : De Gs 16 (.aload_n 0) 1 := by decide +kernel
theorem d19_17 : De Gs 17 (.arraylength) 1 := by decide +kernel
theorem d19_18 : De Gs 18 (.invokestatic 38) 3 := by decide +kernel
theorem d19_21 : De Gs 21 (.istore_n 3) 1 := by decide +kernel
theorem d19_22 : De Gs 22 (.iload_n 2) 1 := by decide +kernel
theorem d19_23 : De Gs 23 (.iload_n 3) 1 := by decide +kernel
theorem d19_24 : De Gs 24 (.if_icmp .lt 5) 3 := by decide +kernel
theorem d19_27 : De Gs 27 (.iconst (-1)) 1 := by decide +kernel
theorem d19_28 : De Gs 28 (.ireturn) 1 := by decide +kernel
theorem d19_29 : De Gs 29 (.aload_n 0) 1 := by decide +kernel
theorem d19_30 : De Gs 30 (.iload_n 1) 1 := by decide +kernel
theorem d19_31 : De Gs 31 (.iload_n 2) 1 := by decide +kernel
theorem d19_32 : De Gs 32 (.iload_n 3) 1 := by decide +kernel
theorem d19_33 : De Gs 33 (.invokestatic 95) 3 := by decide +kernel
theorem d19_36 : De Gs 36 (.ireturn) 1 := by decide +kernel
abbrev y16 : MethodName := ⟨cL1, "indexOf", "([BIII)I"⟩
def Rlio (t : Int32) : Option Value := some (.int t)
def Klio (Z : State) (p1 : Int32) (a0 : Addr) (h0 : Heap) (n0 : Nat) (t : Int32) (h : Heap) (L : List Loc) : Prop := own_K0 h0 h L
def flio_0 (p1 : Int32) : Int32 := (if (f20_0 p1) = (0 : Int32) then (-1 : Int32) else (fioc_0 p1))
set_option maxRecDepth 65536 in
set_option maxHeartbeats 40000000 in
theorem glio_0 (hw : HW aw Z) {h0 : Heap} {n0 : Nat} (p1 : Int32) (a0 : Addr)
    (Bd : BodyLoose p l y16 (head1 (Jvm.Cond.code y16 Gs 4 (some .int) :: ws) Qlio) Gs 4 (some .int) e s m #[(.ref a0), (.int p1), (.int 0), (.int 15)] below meth c s₁) (hml : c.maxLocals = 4) (hZ : Z.Warmed39 s.vm) (T0 : State) {locs : List Loc} (X0 : Stand p l e Qlio s m #[(.ref a0), (.int p1), (.int 0), (.int 15)] below meth c T0 locs 0 0) (e0 : T0.heap = h0) (SZ0 : n0 ≤ h0.size) (NF0 : locs = []) (G0 : own_Pv Z h0 a0 (15 : Int32) [(33 : Int32), (35 : Int32), (36 : Int32), (37 : Int32), (38 : Int32), (39 : Int32), (42 : Int32), (43 : Int32), (45 : Int32), (46 : Int32), (94 : Int32), (95 : Int32), (96 : Int32), (124 : Int32), (126 : Int32)] .byte) :
    own_Go p e below s Qlio.cells Qlio.slots (Rlio (flio_0 p1)) (Klio Z p1 a0 h0 n0 (flio_0 p1)) (T0.setTop (mkF m 0 #[rv a0, iv p1, iv 0, iv 15] [])) := by
  have hx := Bd.exec
  have hby := Bd.bytes
  have hown : s.vm.findClass cL1 = some m.cls := findClass_of_methodNamed Bd.named
  have hnm := (name_of_methodNamed Bd.named Bd.method).1
  unfold flio_0
  refine op T0 (mkF m 1 #[rv a0, iv p1, iv 0, iv 15] [(.int p1)]) (fun _ k => XS.iloadN X0.here hx rfl (hb hby d19_0) rfl k) ?_
  obtain ⟨_, _, ⟨T1, L1, k1, n1⟩, -, X1', ⟨Lc1, hQ1, l1, y1, z1⟩, st'⟩ := Jvm.LawKit.callS X0 hx (y := y13) hown (mvT hZ (ow hw 94 rfl)) (mvT hZ (ow hw 95 rfl)) (mvT hZ (ow hw 69 rfl)) (mvT hZ (ow hw 96 rfl)) (by decide) (backOf (W := 0) (rm20 l Z aw hw [] p1 h0) hZ (ow hw 96 rfl) (ow hw 69 rfl) (by decide) (by decide)) (g := (mkF m 1 #[rv a0, iv p1, iv 0, iv 15] [(.int p1)])) rfl (by rw [hml]; rfl) (argsL := [(.int p1)]) (rest := []) (lenOf own_pd7 rfl) rfl (by show 2 * 0 + _ ≤ _; exact Nat.le_of_eq rfl) (hb hby d19_1) (fun _ _ => ⟨rfl, e0, (by decide : 0 + 0 ≤ _), (by decide : 0 + 0 ≤ _)⟩)
  dsimp only [Pt.U, Pt.locs, Pt.cells, Pt.slots] at X1' l1 y1 z1 st' hQ1
  subst l1 y1 z1
  obtain ⟨rfl, rfl, e1⟩ := hQ1
  have X1 : Stand p l e Qlio s m #[(.ref a0), (.int p1), (.int 0), (.int 15)] below meth c T1 _ 0 0 := own_locs X1'
  refine op T1 (mkF m 4 #[rv a0, iv p1, iv 0, iv 15] [(.int (f20_0 p1))]) (fun _ k => st' _ k) ?_
  refine own_iteT Rlio (Klio Z p1 a0 h0 n0) (fun hc4 => ?_) (fun hc4 => ?_)
  · skip
    refine op T1 (mkF m 8 #[rv a0, iv p1, iv 0, iv 15] [(.int (-1 : Int32))]) (fun _ k => XS.ifNo X1.here hx rfl (hb hby d19_4) rfl ((if0 _ _).trans (teq hc4).2) (XS.iconst X1.here hx rfl (hb hby d19_7) k)) ?_
    exact own_ret (w := (.int (-1 : Int32))) X1 hx Bd.notSynchronized Bd.returns rfl (Or.inl ⟨rfl, by simp, _, rfl⟩) (hb hby d19_8) (by rw [e1]; exact ⟨NF0, rfl⟩) (by decide) (by decide)
  · skip
    refine op T1 (mkF m 11 #[rv a0, iv p1, iv 0, iv 15] [(.int 0), (.int 0)]) (fun _ k => XS.ifYes X1.here hx rfl (pc0 := 4) (pc' := 9) rfl (hb hby d19_4) rfl ((if0 _ _).trans (feq hc4).2) (by decide) (by decide) (XS.iloadN X1.here hx rfl (hb hby d19_9) rfl (XS.iconst X1.here hx rfl (hb hby d19_10) k))) ?_
    obtain ⟨_, _, ⟨T2, L2, k2, n2⟩, -, X2', ⟨Lc2, hQ2, l2, y2, z2⟩, st'⟩ := Jvm.LawKit.callS X1 hx (y := y14) hown (mvT hZ (ow hw 97 rfl)) (mvT hZ (ow hw 98 rfl)) (mvT hZ (ow hw 99 rfl)) (mvT hZ (ow hw 100 rfl)) (by decide) (backOf (W := 0) (rm21 l Z aw hw [] (0 : Int32) (0 : Int32) h0) hZ (ow hw 100 rfl) (ow hw 99 rfl) (by decide) (by decide)) (g := (mkF m 11 #[rv a0, iv p1, iv 0, iv 15] [(.int 0), (.int 0)])) rfl (by rw [hml]; rfl) (argsL := [(.int 0), (.int 0)]) (rest := []) (lenOf own_pd8 rfl) rfl (by show 2 * 0 + _ ≤ _; exact Nat.le_of_eq rfl) (hb hby d19_11) (fun _ _ => ⟨rfl, e1, (by decide : 0 + 0 ≤ _), (by decide : 0 + 0 ≤ _)⟩)
    dsimp only [Pt.U, Pt.locs, Pt.cells, Pt.slots] at X2' l2 y2 z2 st' hQ2
    subst l2 y2 z2
    obtain ⟨rfl, rfl, e2⟩ := hQ2
    have X2 : Stand p l e Qlio s m #[(.ref a0), (.int p1), (.int 0), (.int 15)] below meth c T2 _ 0 0 := own_locs X2'
    refine op T2 (mkF m 17 #[rv a0, iv p1, iv 0, iv 15] [(.ref a0), (.int 15)]) (fun _ k => st' _ (XS.istoreN X2.here hx rfl (hb hby d19_14) rfl (l' := #[rv a0, iv p1, iv 0, iv 15]) rfl (XS.iloadN X2.here hx rfl (hb hby d19_15) rfl (XS.aloadN X2.here hx rfl (hb hby d19_16) rfl rfl k)))) ?_
    obtain ⟨k3, cl3, Ar3, q3, S3, N3, H3, G3⟩ := id G0
    refine op T2 (mkF m 18 #[rv a0, iv p1, iv 0, iv 15] [(.int 15), (.int 15)]) (fun t k => X2.arraylength hx (by rw [e2]; exact Ar3.1) (State.isArrayOf_alike hZ.alike Ar3.2.1) (g := (mkF m 17 #[rv a0, iv p1, iv 0, iv 15] [(.ref a0), (.int 15)])) rfl rfl (hb hby d19_17) t (by rw [len_of S3 N3]; exact k)) ?_
    obtain ⟨_, _, ⟨T4, L4, k4, n4⟩, -, X4', ⟨Lc4, hQ4, l4, y4, z4⟩, st'⟩ := Jvm.LawKit.callS X2 hx (y := y15) hown (mvT hZ (ow hw 101 rfl)) (mvT hZ (ow hw 102 rfl)) (mvT hZ (ow hw 99 rfl)) (mvT hZ (ow hw 103 rfl)) (by decide) (backOf (W := 0) (rm22 l Z aw hw [] (15 : Int32) (15 : Int32) h0) hZ (ow hw 103 rfl) (ow hw 99 rfl) (by decide) (by decide)) (g := (mkF m 18 #[rv a0, iv p1, iv 0, iv 15] [(.int 15), (.int 15)])) rfl (by rw [hml]; rfl) (argsL := [(.int 15), (.int 15)]) (rest := []) (lenOf own_pd8 rfl) rfl (by show 2 * 0 + _ ≤ _; exact Nat.le_of_eq rfl) (hb hby d19_18) (fun _ _ => ⟨rfl, e2, (by decide : 0 + 0 ≤ _), (by decide : 0 + 0 ≤ _)⟩)
    dsimp only [Pt.U, Pt.locs, Pt.cells, Pt.slots] at X4' l4 y4 z4 st' hQ4
    subst l4 y4 z4
    obtain ⟨rfl, rfl, e4⟩ := hQ4
    have X4 : Stand p l e Qlio s m #[(.ref a0), (.int p1), (.int 0), (.int 15)] below meth c T4 _ 0 0 := own_locs X4'
    refine op T4 (mkF m 24 #[rv a0, iv p1, iv 0, iv 15] [(.int 15), (.int 0)]) (fun _ k => st' _ (XS.istoreN X4.here hx rfl (hb hby d19_21) rfl (l' := #[rv a0, iv p1, iv 0, iv 15]) rfl (XS.iloadN X4.here hx rfl (hb hby d19_22) rfl (XS.iloadN X4.here hx rfl (hb hby d19_23) rfl k)))) ?_
    have hd5 : (0 : Int32) < (15 : Int32) := by decide
    refine op T4 (mkF m 33 #[rv a0, iv p1, iv 0, iv 15] [(.int 15), (.int 0), (.int p1), (.ref a0)]) (fun _ k => XS.icmpYes X4.here hx rfl (pc0 := 24) (pc' := 29) rfl (hb hby d19_24) rfl (tlt hd5).1 (by decide) (by decide) (XS.aloadN X4.here hx rfl (hb hby d19_29) rfl rfl (XS.iloadN X4.here hx rfl (hb hby d19_30) rfl (XS.iloadN X4.here hx rfl (hb hby d19_31) rfl (XS.iloadN X4.here hx rfl (hb hby d19_32) rfl k))))) ?_
    obtain ⟨_, _, ⟨T6, L6, k6, n6⟩, -, X6', ⟨Lc6, hQ6, l6, y6, z6⟩, st'⟩ := Jvm.LawKit.callS X4 hx (y := y12) hown (mvT hZ (ow hw 104 rfl)) (mvT hZ (ow hw 105 rfl)) (mvT hZ (ow hw 69 rfl)) (mvT hZ (ow hw 106 rfl)) (by decide) (backOf (W := 0) (rmioc l Z aw hw [] p1 a0 h0 n0 SZ0 G0) hZ (ow hw 106 rfl) (ow hw 69 rfl) (by decide) (by decide)) (g := (mkF m 33 #[rv a0, iv p1, iv 0, iv 15] [(.int 15), (.int 0), (.int p1), (.ref a0)])) rfl (by rw [hml]; rfl) (argsL := [(.ref a0), (.int p1), (.int 0), (.int 15)]) (rest := []) (lenOf own_pd9 rfl) rfl (by show 2 * 0 + _ ≤ _; exact Nat.le_of_eq rfl) (hb hby d19_33) (fun _ _ => ⟨rfl, e4, (by decide : 0 + 0 ≤ _), (by decide : 0 + 0 ≤ _)⟩)
    dsimp only [Pt.U, Pt.locs, Pt.cells, Pt.slots] at X6' l6 y6 z6 st' hQ6
    subst l6 y6 z6
    obtain ⟨rfl, rfl, e6⟩ := hQ6
    have X6 : Stand p l e Qlio s m #[(.ref a0), (.int p1), (.int 0), (.int 15)] below meth c T6 _ 0 0 := own_locs X6'
    refine op T6 (mkF m 36 #[rv a0, iv p1, iv 0, iv 15] [(.int (fioc_0 p1))]) (fun _ k => st' _ k) ?_
    exact own_ret (w := (.int (fioc_0 p1))) X6 hx Bd.notSynchronized Bd.returns rfl (Or.inl ⟨rfl, by simp, _, rfl⟩) (hb hby d19_36) (by rw [e6]; exact ⟨NF0, rfl⟩) (by decide) (by decide)
theorem ef_lio (m : MethodId) (a0 : Addr) (p1 : Int32) : entryFrame m #[(.ref a0), (.int p1), (.int 0), (.int 15)] 4 = mkF m 0 #[rv a0, iv p1, iv 0, iv 15] [] := by first | (simp [entryFrame, mkF, argsToLocals, Value.category]; done) | rfl
set_option maxRecDepth 65536 in
set_option maxHeartbeats 40000000 in
theorem rmlio (l : Launch) (Z : State) (aw : Array Value) (hw : HW aw Z) (ws : List Jvm.Cond) (p1 : Int32) (a0 : Addr) (h0 : Heap) (n0 : Nat) (SZ0 : n0 ≤ h0.size) (G0 : own_Pv Z h0 a0 (15 : Int32) [(33 : Int32), (35 : Int32), (36 : Int32), (37 : Int32), (38 : Int32), (39 : Int32), (42 : Int32), (43 : Int32), (45 : Int32), (46 : Int32), (94 : Int32), (95 : Int32), (96 : Int32), (124 : Int32), (126 : Int32)] .byte) :
    MetFree l y16 (head1 (Jvm.Cond.code y16 Gs 4 (some .int) :: ws) Qlio) (fun a U => a = #[(.ref a0), (.int p1), (.int 0), (.int 15)] ∧ Z.Warmed39 U.vm ∧ U.heap = h0) (fun _ _ _ _ _ => True) (fun _ U o U' => ∃ v L, o = .returned v ∧ own_Q (Rlio (flio_0 p1)) (Klio Z p1 a0 h0 n0 (flio_0 p1)) v U'.heap L ∧ FrameEnd U o U' L Qlio.cells Qlio.slots) := by
  refine MetFree.of_bodySF (plainFor_of_name own_pn0) hisR ?_
  intro p e s m args below meth c s₁ Bd hml0 hP hK
  obtain ⟨rfl, hZ, hh⟩ := hP
  have hml : c.maxLocals = 4 := hml0
  have e0 : s₁.heap = h0 := by rw [← hh, Bd.state]; rfl
  exact own_pre (fun t k => castTop (ef_lio m a0 p1) k) (glio_0 hw p1 a0 Bd hml hZ s₁ (Stand.of_body Bd) e0 SZ0 rfl G0)
abbrev Qio2 : Room := { frames := 2, cells := 0, slots := 0, locals := 48 }
theorem own_pd10 : parseMethodDescriptor "()I" = some ⟨[], some .int⟩ := by decide +kernel
/-! body 18, io2 -/
theorem d18_0 : De Hd 0 (.aload_n 0) 1 := by decide +kernel
theorem d18_1 : De Hd 1 (.invokevirtual 492) 3 := by decide +kernel
theorem d18_4 : De Hd 4 (.ifCond .eq 19) 3 := by decide +kernel
theorem d18_7 : De Hd 7 (.aload_n 0) 1 := by decide +kernel
theorem d18_8 : De Hd 8 (.getfield 9) 3 := by decide +kernel
theorem d18_11 : De Hd 11 (.iload_n 1) 1 := by decide +kernel
theorem d18_12 : De Hd 12 (.iload_n 2) 1 := by decide +kernel
theorem d18_13 : De Hd 13 (.aload_n 0) 1 := by decide +kernel
theorem d18_14 : De Hd 14 (.invokevirtual 505) 3 := by decide +kernel
theorem d18_17 : De Hd 17 (.invokestatic 637) 3 := by decide +kernel
theorem d18_20 : De Hd 20 (.goto 16) 3 := by decide +kernel
theorem d18_36 : De Hd 36 (.ireturn) 1 := by decide +kernel
abbrev y17 : MethodName := ⟨cS, "indexOf", "(II)I"⟩
def Rio2 (t : Int32) : Option Value := some (.int t)
def Kio2 (Z : State) (p1 : Int32) (a0 bv : Addr) (h0 : Heap) (n0 : Nat) (t : Int32) (h : Heap) (L : List Loc) : Prop := own_K0 h0 h L
def fio2_0 (p1 : Int32) : Int32 := (flio_0 p1)
set_option maxRecDepth 65536 in
set_option maxHeartbeats 40000000 in
theorem gio2_0 (hw : HW aw Z) {h0 : Heap} {n0 : Nat} (p1 : Int32) (a0 bv : Addr)
    (Bd : BodyLoose p l y17 (head1 (Jvm.Cond.code y17 Hd 3 (some .int) :: ws) Qio2) Hd 3 (some .int) e s m #[(.ref a0), (.int p1), (.int 0)] below meth c s₁) (hml : c.maxLocals = 3) (hZ : Z.Warmed39 s.vm) (T0 : State) {locs : List Loc} (X0 : Stand p l e Qio2 s m #[(.ref a0), (.int p1), (.int 0)] below meth c T0 locs 0 0) (e0 : T0.heap = h0) (SZ0 : n0 ≤ h0.size) (NF0 : locs = []) (Ga : Exa Z h0 a0 cS) (Gf : Fld Z h0 a0 cS "value" "[B" (.ref bv)) (Gc : Fld Z h0 a0 cS "coder" "B" (.int 0)) (Gx : own_Pv Z h0 bv (15 : Int32) [(33 : Int32), (35 : Int32), (36 : Int32), (37 : Int32), (38 : Int32), (39 : Int32), (42 : Int32), (43 : Int32), (45 : Int32), (46 : Int32), (94 : Int32), (95 : Int32), (96 : Int32), (124 : Int32), (126 : Int32)] .byte) (J0 : own_J Z h0) :
    own_Go p e below s Qio2.cells Qio2.slots (Rio2 (fio2_0 p1)) (Kio2 Z p1 a0 bv h0 n0 (fio2_0 p1)) (T0.setTop (mkF m 0 #[rv a0, iv p1, iv 0] [])) := by
  have hx := Bd.exec
  have hby := Bd.bytes
  have hown : s.vm.findClass cS = some m.cls := findClass_of_methodNamed Bd.named
  have hnm := (name_of_methodNamed Bd.named Bd.method).1
  unfold fio2_0
  refine op T0 (mkF m 1 #[rv a0, iv p1, iv 0] [(.ref a0)]) (fun _ k => XS.aloadN X0.here hx rfl (hb hby d18_0) rfl rfl k) ?_
  obtain ⟨cq1, kq1, qa1, qb1, qc1⟩ := isOf hZ e0 Ga
  obtain ⟨_, _, ⟨T1, L1, k1, n1⟩, -, X1', ⟨Lc1, hQ1, l1, y1, z1⟩, st'⟩ := X0.virtualBack hx (y := y7) (z := y7) hown (mvT hZ (ow hw 62 rfl)) (mvT hZ (ow hw 63 rfl)) (notFace_of_selects (args := #[]) (mvT hZ (ow hw 65 rfl))) (mvT hZ (ow hw 65 rfl)) (mvT hZ (ow hw 64 rfl)) (by decide) (backOf (W := 0) (rmil0 l Z aw hw []  a0 h0 n0 SZ0 Gc J0) hZ (ow hw 66 rfl) (ow hw 4 rfl) (by decide) (by decide)) qa1 qc1 (g := (mkF m 1 #[rv a0, iv p1, iv 0] [(.ref a0)])) rfl (by rw [hml]; rfl) (Steps.refl _) (argsL := []) (rest := []) (lenOf own_pd6 rfl) rfl (by show 2 * 0 + _ ≤ _; exact Nat.le_of_eq rfl) (hb hby d18_1) (fun _ _ => ⟨rfl, e0, (by decide : 0 + 0 ≤ _), (by decide : 0 + 0 ≤ _)⟩)
  dsimp only [Pt.U, Pt.locs, Pt.cells, Pt.slots] at X1' l1 y1 z1 st' hQ1
  subst l1 y1 z1
  obtain ⟨rfl, rfl, e1⟩ := hQ1
  have X1 : Stand p l e Qio2 s m #[(.ref a0), (.int p1), (.int 0)] below meth c T1 _ 0 0 := own_locs X1'
  refine op T1 (mkF m 4 #[rv a0, iv p1, iv 0] [(.int fil0_0)]) (fun _ k => st'.trans k) ?_
  have hc4 : ¬ (fil0_0 = (0 : Int32)) := (show ¬ (1 : Int32) = 0 by decide)
  refine op T1 (mkF m 8 #[rv a0, iv p1, iv 0] [(.ref a0)]) (fun _ k => XS.ifNo X1.here hx rfl (hb hby d18_4) rfl ((if0 _ _).trans (feq hc4).1) (XS.aloadN X1.here hx rfl (hb hby d18_7) rfl rfl k)) ?_
  obtain ⟨T2, X2, e2, st'⟩ := getF X1 hx hZ hown (host := "") (Or.inl (ow hw 21 rfl)) Via.refl e1 Gf (g := (mkF m 8 #[rv a0, iv p1, iv 0] [(.ref a0)])) rfl rfl (hb hby d18_8)
  refine op T2 (mkF m 14 #[rv a0, iv p1, iv 0] [(.ref a0), (.int 0), (.int p1), (.ref bv)]) (fun _ k => st' _ (XS.iloadN X2.here hx rfl (hb hby d18_11) rfl (XS.iloadN X2.here hx rfl (hb hby d18_12) rfl (XS.aloadN X2.here hx rfl (hb hby d18_13) rfl rfl k)))) ?_
  obtain ⟨cq3, kq3, qa3, qb3, qc3⟩ := isOf hZ e2 Ga
  obtain ⟨_, _, ⟨T3, L3, k3, n3⟩, -, X3', ⟨Lc3, hQ3, l3, y3, z3⟩, st'⟩ := X2.virtualBack hx (y := y9) (z := y9) hown (mvT hZ (ow hw 90 rfl)) (mvT hZ (ow hw 48 rfl)) (notFace_of_selects (args := #[]) (mvT hZ (ow hw 50 rfl))) (mvT hZ (ow hw 50 rfl)) (mvT hZ (ow hw 49 rfl)) (by decide) (backOf (W := 3) (rmlen l Z aw hw [] (15 : Int32) (0 : Int32) a0 bv h0 n0 SZ0 Ga Gf Gc (own_Pv.be Gx (fun _ k => nomatch k)) J0) hZ (ow hw 51 rfl) (ow hw 4 rfl) (by decide) (by decide)) qa3 qc3 (g := (mkF m 14 #[rv a0, iv p1, iv 0] [(.ref a0), (.int 0), (.int p1), (.ref bv)])) rfl (by rw [hml]; rfl) (Steps.refl _) (argsL := []) (rest := [(.int 0), (.int p1), (.ref bv)]) (lenOf own_pd10 rfl) rfl (by show 2 * 0 + _ ≤ _; exact Nat.le_of_eq rfl) (hb hby d18_14) (fun _ _ => ⟨rfl, e2, (by decide : 0 + 0 ≤ _), (by decide : 0 + 0 ≤ _)⟩)
  dsimp only [Pt.U, Pt.locs, Pt.cells, Pt.slots] at X3' l3 y3 z3 st' hQ3
  subst l3 y3 z3
  obtain ⟨rfl, rfl, e3⟩ := hQ3
  have X3 : Stand p l e Qio2 s m #[(.ref a0), (.int p1), (.int 0)] below meth c T3 _ 0 0 := own_locs X3'
  refine op T3 (mkF m 17 #[rv a0, iv p1, iv 0] [(.int 15), (.int 0), (.int p1), (.ref bv)]) (fun _ k => st'.trans k) ?_
  obtain ⟨_, _, ⟨T4, L4, k4, n4⟩, -, X4', ⟨Lc4, hQ4, l4, y4, z4⟩, st'⟩ := Jvm.LawKit.callS X3 hx (y := y16) hown (mvT hZ (ow hw 91 rfl)) (mvT hZ (ow hw 92 rfl)) (mvT hZ (ow hw 69 rfl)) (mvT hZ (ow hw 93 rfl)) (by decide) (backOf (W := 0) (rmlio l Z aw hw [] p1 bv h0 n0 SZ0 Gx) hZ (ow hw 93 rfl) (ow hw 69 rfl) (by decide) (by decide)) (g := (mkF m 17 #[rv a0, iv p1, iv 0] [(.int 15), (.int 0), (.int p1), (.ref bv)])) rfl (by rw [hml]; rfl) (argsL := [(.ref bv), (.int p1), (.int 0), (.int 15)]) (rest := []) (lenOf own_pd9 rfl) rfl (by show 2 * 0 + _ ≤ _; exact Nat.le_of_eq rfl) (hb hby d18_17) (fun _ _ => ⟨rfl, e3, (by decide : 0 + 0 ≤ _), (by decide : 0 + 0 ≤ _)⟩)
  dsimp only [Pt.U, Pt.locs, Pt.cells, Pt.slots] at X4' l4 y4 z4 st' hQ4
  subst l4 y4 z4
  obtain ⟨rfl, rfl, e4⟩ := hQ4
  have X4 : Stand p l e Qio2 s m #[(.ref a0), (.int p1), (.int 0)] below meth c T4 _ 0 0 := own_locs X4'
  refine op T4 (mkF m 36 #[rv a0, iv p1, iv 0] [(.int (flio_0 p1))]) (fun _ k => st' _ (XS.goto X4.here hx rfl (pc0 := 20) (pc' := 36) rfl (hb hby d18_20) (by decide) (by decide) k)) ?_
  exact own_ret (w := (.int (flio_0 p1))) X4 hx Bd.notSynchronized Bd.returns rfl (Or.inl ⟨rfl, by simp, _, rfl⟩) (hb hby d18_36) (by rw [e4]; exact ⟨NF0, rfl⟩) (by decide) (by decide)
theorem ef_io2 (m : MethodId) (a0 : Addr) (p1 : Int32) : entryFrame m #[(.ref a0), (.int p1), (.int 0)] 3 = mkF m 0 #[rv a0, iv p1, iv 0] [] := by first | (simp [entryFrame, mkF, argsToLocals, Value.category]; done) | rfl
set_option maxRecDepth 65536 in
set_option maxHeartbeats 40000000 in
theorem rmio2 (l : Launch) (Z : State) (aw : Array Value) (hw : HW aw Z) (ws : List Jvm.Cond) (p1 : Int32) (a0 bv : Addr) (h0 : Heap) (n0 : Nat) (SZ0 : n0 ≤ h0.size) (Ga : Exa Z h0 a0 cS) (Gf : Fld Z h0 a0 cS "value" "[B" (.ref bv)) (Gc : Fld Z h0 a0 cS "coder" "B" (.int 0)) (Gx : own_Pv Z h0 bv (15 : Int32) [(33 : Int32), (35 : Int32), (36 : Int32), (37 : Int32), (38 : Int32), (39 : Int32), (42 : Int32), (43 : Int32), (45 : Int32), (46 : Int32), (94 : Int32), (95 : Int32), (96 : Int32), (124 : Int32), (126 : Int32)] .byte) (J0 : own_J Z h0) :
    MetFree l y17 (head1 (Jvm.Cond.code y17 Hd 3 (some .int) :: ws) Qio2) (fun a U => a = #[(.ref a0), (.int p1), (.int 0)] ∧ Z.Warmed39 U.vm ∧ U.heap = h0) (fun _ _ _ _ _ => True) (fun _ U o U' => ∃ v L, o = .returned v ∧ own_Q (Rio2 (fio2_0 p1)) (Kio2 Z p1 a0 bv h0 n0 (fio2_0 p1)) v U'.heap L ∧ FrameEnd U o U' L Qio2.cells Qio2.slots) := by
  refine MetFree.of_bodySF (plainFor_of_name own_pn3) hisR ?_
  intro p e s m args below meth c s₁ Bd hml0 hP hK
  obtain ⟨rfl, hZ, hh⟩ := hP
  have hml : c.maxLocals = 3 := hml0
  have e0 : s₁.heap = h0 := by rw [← hh, Bd.state]; rfl
  exact own_pre (fun t k => castTop (ef_io2 m a0 p1) k) (gio2_0 hw p1 a0 bv Bd hml hZ s₁ (Stand.of_body Bd) e0 SZ0 rfl Ga Gf Gc Gx J0)
abbrev Qio1 : Room := { frames := 3, cells := 0, slots := 0, locals := 70 }
/-! body 17, io1 -/
theorem d17_0 : De Hv 0 (.aload_n 0) 1 := by decide +kernel
theorem d17_1 : De Hv 1 (.iload_n 1) 1 := by decide +kernel
theorem d17_2 : De Hv 2 (.iconst 0) 1 := by decide +kernel
theorem d17_3 : De Hv 3 (.invokevirtual 633) 3 := by decide +kernel
theorem d17_6 : De Hv 6 (.ireturn) 1 := by decide +kernel
abbrev y18 : MethodName := ⟨cS, "indexOf", "(I)I"⟩
def Rio1 (t : Int32) : Option Value := some (.int t)
def Kio1 (Z : State) (p1 : Int32) (a0 bv : Addr) (h0 : Heap) (n0 : Nat) (t : Int32) (h : Heap) (L : List Loc) : Prop := own_K0 h0 h L
def fio1_0 (p1 : Int32) : Int32 := (fio2_0 p1)
set_option maxRecDepth 65536 in
set_option maxHeartbeats 40000000 in
theorem gio1_0 (hw : HW aw Z) {h0 : Heap} {n0 : Nat} (p1 : Int32) (a0 bv : Addr)
    (Bd : BodyLoose p l y18 (head1 (Jvm.Cond.code y18 Hv 2 (some .int) :: ws) Qio1) Hv 2 (some .int) e s m #[(.ref a0), (.int p1)] below meth c s₁) (hml : c.maxLocals = 2) (hZ : Z.Warmed39 s.vm) (T0 : State) {locs : List Loc} (X0 : Stand p l e Qio1 s m #[(.ref a0), (.int p1)] below meth c T0 locs 0 0) (e0 : T0.heap = h0) (SZ0 : n0 ≤ h0.size) (NF0 : locs = []) (Ga : Exa Z h0 a0 cS) (Gf : Fld Z h0 a0 cS "value" "[B" (.ref bv)) (Gc : Fld Z h0 a0 cS "coder" "B" (.int 0)) (Gx : own_Pv Z h0 bv (15 : Int32) [(33 : Int32), (35 : Int32), (36 : Int32), (37 : Int32), (38 : Int32), (39 : Int32), (42 : Int32), (43 : Int32), (45 : Int32), (46 : Int32), (94 : Int32), (95 : Int32), (96 : Int32), (124 : Int32), (126 : Int32)] .byte) (J0 : own_J Z h0) :
    own_Go p e below s Qio1.cells Qio1.slots (Rio1 (fio1_0 p1)) (Kio1 Z p1 a0 bv h0 n0 (fio1_0 p1)) (T0.setTop (mkF m 0 #[rv a0, iv p1] [])) := by
  have hx := Bd.exec
  have hby := Bd.bytes
  have hown : s.vm.findClass cS = some m.cls := findClass_of_methodNamed Bd.named
  have hnm := (name_of_methodNamed Bd.named Bd.method).1
  unfold fio1_0
  refine op T0 (mkF m 3 #[rv a0, iv p1] [(.int 0), (.int p1), (.ref a0)]) (fun _ k => XS.aloadN X0.here hx rfl (hb hby d17_0) rfl rfl (XS.iloadN X0.here hx rfl (hb hby d17_1) rfl (XS.iconst X0.here hx rfl (hb hby d17_2) k))) ?_
  obtain ⟨cq1, kq1, qa1, qb1, qc1⟩ := isOf hZ e0 Ga
  obtain ⟨_, _, ⟨T1, L1, k1, n1⟩, -, X1', ⟨Lc1, hQ1, l1, y1, z1⟩, st'⟩ := X0.virtualBack hx (y := y17) (z := y17) hown (mvT hZ (ow hw 85 rfl)) (mvT hZ (ow hw 86 rfl)) (notFace_of_selects (args := #[]) (mvT hZ (ow hw 88 rfl))) (mvT hZ (ow hw 88 rfl)) (mvT hZ (ow hw 87 rfl)) (by decide) (backOf (W := 0) (rmio2 l Z aw hw [] p1 a0 bv h0 n0 SZ0 Ga Gf Gc Gx J0) hZ (ow hw 89 rfl) (ow hw 4 rfl) (by decide) (by decide)) qa1 qc1 (g := (mkF m 3 #[rv a0, iv p1] [(.int 0), (.int p1), (.ref a0)])) rfl (by rw [hml]; rfl) (Steps.refl _) (argsL := [(.int p1), (.int 0)]) (rest := []) (lenOf own_pd8 rfl) rfl (by show 2 * 0 + _ ≤ _; exact Nat.le_of_eq rfl) (hb hby d17_3) (fun _ _ => ⟨rfl, e0, (by decide : 0 + 0 ≤ _), (by decide : 0 + 0 ≤ _)⟩)
  dsimp only [Pt.U, Pt.locs, Pt.cells, Pt.slots] at X1' l1 y1 z1 st' hQ1
  subst l1 y1 z1
  obtain ⟨rfl, rfl, e1⟩ := hQ1
  have X1 : Stand p l e Qio1 s m #[(.ref a0), (.int p1)] below meth c T1 _ 0 0 := own_locs X1'
  refine op T1 (mkF m 6 #[rv a0, iv p1] [(.int (fio2_0 p1))]) (fun _ k => st'.trans k) ?_
  exact own_ret (w := (.int (fio2_0 p1))) X1 hx Bd.notSynchronized Bd.returns rfl (Or.inl ⟨rfl, by simp, _, rfl⟩) (hb hby d17_6) (by rw [e1]; exact ⟨NF0, rfl⟩) (by decide) (by decide)
theorem ef_io1 (m : MethodId) (a0 : Addr) (p1 : Int32) : entryFrame m #[(.ref a0), (.int p1)] 2 = mkF m 0 #[rv a0, iv p1] [] := by first | (simp [entryFrame, mkF, argsToLocals, Value.category]; done) | rfl
set_option maxRecDepth 65536 in
set_option maxHeartbeats 40000000 in
theorem rmio1 (l : Launch) (Z : State) (aw : Array Value) (hw : HW aw Z) (ws : List Jvm.Cond) (p1 : Int32) (a0 bv : Addr) (h0 : Heap) (n0 : Nat) (SZ0 : n0 ≤ h0.size) (Ga : Exa Z h0 a0 cS) (Gf : Fld Z h0 a0 cS "value" "[B" (.ref bv)) (Gc : Fld Z h0 a0 cS "coder" "B" (.int 0)) (Gx : own_Pv Z h0 bv (15 : Int32) [(33 : Int32), (35 : Int32), (36 : Int32), (37 : Int32), (38 : Int32), (39 : Int32), (42 : Int32), (43 : Int32), (45 : Int32), (46 : Int32), (94 : Int32), (95 : Int32), (96 : Int32), (124 : Int32), (126 : Int32)] .byte) (J0 : own_J Z h0) :
    MetFree l y18 (head1 (Jvm.Cond.code y18 Hv 2 (some .int) :: ws) Qio1) (fun a U => a = #[(.ref a0), (.int p1)] ∧ Z.Warmed39 U.vm ∧ U.heap = h0) (fun _ _ _ _ _ => True) (fun _ U o U' => ∃ v L, o = .returned v ∧ own_Q (Rio1 (fio1_0 p1)) (Kio1 Z p1 a0 bv h0 n0 (fio1_0 p1)) v U'.heap L ∧ FrameEnd U o U' L Qio1.cells Qio1.slots) := by
  refine MetFree.of_bodySF (plainFor_of_name own_pn3) hisR ?_
  intro p e s m args below meth c s₁ Bd hml0 hP hK
  obtain ⟨rfl, hZ, hh⟩ := hP
  have hml : c.maxLocals = 2 := hml0
  have e0 : s₁.heap = h0 := by rw [← hh, Bd.state]; rfl
  exact own_pre (fun t k => castTop (ef_io1 m a0 p1) k) (gio1_0 hw p1 a0 bv Bd hml hZ s₁ (Stand.of_body Bd) e0 SZ0 rfl Ga Gf Gc Gx J0)
abbrev Qcfl : Room := { frames := 0, cells := 0, slots := 0, locals := 0 }
/-! body 8, cfl -/
theorem d8_0 : De Ho 0 (.iload_n 1) 1 := by decide +kernel
theorem d8_1 : De Ho 1 (.aload_n 0) 1 := by decide +kernel
theorem d8_2 : De Ho 2 (.arraylength) 1 := by decide +kernel
theorem d8_3 : De Ho 3 (.isub) 1 := by decide +kernel
theorem d8_4 : De Ho 4 (.bipush 31) 2 := by decide +kernel
theorem d8_6 : De Ho 6 (.iushr) 1 := by decide +kernel
theorem d8_7 : De Ho 7 (.i2b) 1 := by decide +kernel
theorem d8_8 : De Ho 8 (.ireturn) 1 := by decide +kernel
abbrev y19 : MethodName := ⟨cU, "coderFromArrayLen", "([BI)B"⟩
def Rcfl (t : Int32) : Option Value := some (.int t)
def Kcfl (Z : State) (p1 zz : Int32) (a0 : Addr) (h0 : Heap) (n0 : Nat) (t : Int32) (h : Heap) (L : List Loc) : Prop := own_K0 h0 h L
def fcfl_0 (p1 zz : Int32) : Int32 := (nar .byte ((((p1 - zz).toUInt32 >>> ((31 : Int32) &&& 31).toUInt32).toInt32).toInt8.toInt32))
set_option maxRecDepth 65536 in
set_option maxHeartbeats 40000000 in
theorem gcfl_0 (hw : HW aw Z) {h0 : Heap} {n0 : Nat} (p1 zz : Int32) (a0 : Addr)
    (Bd : BodyLoose p l y19 (head1 (Jvm.Cond.code y19 Ho 2 (some .byte) :: ws) Qcfl) Ho 2 (some .byte) e s m #[(.ref a0), (.int p1)] below meth c s₁) (hml : c.maxLocals = 2) (hZ : Z.Warmed39 s.vm) (T0 : State) {locs : List Loc} (X0 : Stand p l e Qcfl s m #[(.ref a0), (.int p1)] below meth c T0 locs 0 0) (e0 : T0.heap = h0) (SZ0 : n0 ≤ h0.size) (NF0 : locs = []) (G0 : own_Be Z h0 a0 zz []) :
    own_Go p e below s Qcfl.cells Qcfl.slots (Rcfl (fcfl_0 p1 zz)) (Kcfl Z p1 zz a0 h0 n0 (fcfl_0 p1 zz)) (T0.setTop (mkF m 0 #[rv a0, iv p1] [])) := by
  have hx := Bd.exec
  have hby := Bd.bytes
  have hown : s.vm.findClass cU = some m.cls := findClass_of_methodNamed Bd.named
  have hnm := (name_of_methodNamed Bd.named Bd.method).1
  unfold fcfl_0
  refine op T0 (mkF m 2 #[rv a0, iv p1] [(.ref a0), (.int p1)]) (fun _ k => XS.iloadN X0.here hx rfl (hb hby d8_0) rfl (XS.aloadN X0.here hx rfl (hb hby d8_1) rfl rfl k)) ?_
  obtain ⟨k1, vs1, ⟨cl1, Ar1, q1, S1, N1, H1, G1⟩, hl1⟩ := id G0
  refine op T0 (mkF m 3 #[rv a0, iv p1] [(.int zz), (.int p1)]) (fun t k => X0.arraylength hx (by rw [e0]; exact Ar1.1) (State.isArrayOf_alike hZ.alike Ar1.2.1) (g := (mkF m 2 #[rv a0, iv p1] [(.ref a0), (.int p1)])) rfl rfl (hb hby d8_2) t (by rw [len_of S1 N1]; exact k)) ?_
  refine op T0 (mkF m 8 #[rv a0, iv p1] [(.int ((((p1 - zz).toUInt32 >>> ((31 : Int32) &&& 31).toUInt32).toInt32).toInt8.toInt32))]) (fun _ k => XS.isub X0.here hx rfl (hb hby d8_3) rfl (XS.bipush X0.here hx rfl (hb hby d8_4) (XS.iushr X0.here hx rfl (hb hby d8_6) rfl (XS.i2b X0.here hx rfl (hb hby d8_7) rfl k)))) ?_
  exact own_retN X0 hx Bd.notSynchronized (t := .byte) Bd.returns (by simp) (hb hby d8_8) (by rw [e0]; exact ⟨NF0, rfl⟩) (by decide) (by decide)
theorem ef_cfl (m : MethodId) (a0 : Addr) (p1 : Int32) : entryFrame m #[(.ref a0), (.int p1)] 2 = mkF m 0 #[rv a0, iv p1] [] := by first | (simp [entryFrame, mkF, argsToLocals, Value.category]; done) | rfl
set_option maxRecDepth 65536 in
set_option maxHeartbeats 40000000 in
theorem rmcfl (l : Launch) (Z : State) (aw : Array Value) (hw : HW aw Z) (ws : List Jvm.Cond) (p1 zz : Int32) (a0 : Addr) (h0 : Heap) (n0 : Nat) (SZ0 : n0 ≤ h0.size) (G0 : own_Be Z h0 a0 zz []) :
    MetFree l y19 (head1 (Jvm.Cond.code y19 Ho 2 (some .byte) :: ws) Qcfl) (fun a U => a = #[(.ref a0), (.int p1)] ∧ Z.Warmed39 U.vm ∧ U.heap = h0) (fun _ _ _ _ _ => True) (fun _ U o U' => ∃ v L, o = .returned v ∧ own_Q (Rcfl (fcfl_0 p1 zz)) (Kcfl Z p1 zz a0 h0 n0 (fcfl_0 p1 zz)) v U'.heap L ∧ FrameEnd U o U' L Qcfl.cells Qcfl.slots) := by
  refine MetFree.of_bodySF (plainFor_of_name own_pn4) hisR ?_
  intro p e s m args below meth c s₁ Bd hml0 hP hK
  obtain ⟨rfl, hZ, hh⟩ := hP
  have hml : c.maxLocals = 2 := hml0
  have e0 : s₁.heap = h0 := by rw [← hh, Bd.state]; rfl
  exact own_pre (fun t k => castTop (ef_cfl m a0 p1) k) (gcfl_0 hw p1 zz a0 Bd hml hZ s₁ (Stand.of_body Bd) e0 SZ0 rfl G0)
def own_lo (c : Int32) : Int32 := (((c >>> ((0 : Int32) &&& 31)).toInt8.toInt32).toInt8.toInt32)
def own_hi (c : Int32) : Int32 := (((c >>> ((8 : Int32) &&& 31)).toInt8.toInt32).toInt8.toInt32)
def own_by (c : Int32) : Int32 := ((c.toInt8.toInt32).toInt8.toInt32)
def own_ch (c : Int32) : Prop := 0 ≤ c.toInt ∧ c.toInt ≤ 65535
theorem own_ch_nar (x : Int32) : own_ch (nar .char x) := by
  have h := c_i2c x
  show 0 ≤ (x.toUInt32.toUInt16.toUInt32.toInt32).toInt ∧ (x.toUInt32.toUInt16.toUInt32.toInt32).toInt ≤ 65535
  omega
theorem own_narc {c : Int32} (h : own_ch c) : nar .char c = c := by
  obtain ⟨h1, h2⟩ := h
  have q := c_i2c c
  show c.toUInt32.toUInt16.toUInt32.toInt32 = c
  rw [← Int32.toInt_inj]; omega
theorem own_gcE {c : Int32} (p zz : Int32) (h : own_ch c) : fgc_0 p zz (own_lo c) (own_hi c) = c := by
  obtain ⟨h1, h2⟩ := h
  unfold fgc_0
  have e255 : ((255 : Int32).toBitVec.toNat) = 2 ^ 8 - 1 := by decide
  have s0 := c_ishr c 0 0 (by decide)
  have s8 := c_ishr c 8 8 (by decide)
  have a1 := c_i2b (c >>> ((0 : Int32) &&& 31))
  have a2 := c_i2b (c >>> ((0 : Int32) &&& 31)).toInt8.toInt32
  have b1 := c_i2b (c >>> ((8 : Int32) &&& 31))
  have b2 := c_i2b (c >>> ((8 : Int32) &&& 31)).toInt8.toInt32
  have m1 := c_mask (own_lo c) 255 8 (by decide) e255
  have m2 := c_mask (own_hi c) 255 8 (by decide) e255
  have t1 := c_ishl (own_lo c &&& 255) 0 0 (by decide)
  have t2 := c_ishl (own_hi c &&& 255) 8 8 (by decide)
  have r1 := rng32 ((own_lo c &&& 255) <<< ((0 : Int32) &&& 31))
  have r2 := rng32 ((own_hi c &&& 255) <<< ((8 : Int32) &&& 31))
  unfold own_lo at m1 t1 r1
  unfold own_hi at m2 t2 r2
  unfold own_lo own_hi
  generalize (c >>> ((0 : Int32) &&& 31)).toInt8.toInt32.toInt8.toInt32 = u at *
  generalize (c >>> ((0 : Int32) &&& 31)).toInt8.toInt32 = u' at *
  generalize (c >>> ((8 : Int32) &&& 31)).toInt8.toInt32.toInt8.toInt32 = w at *
  generalize (c >>> ((8 : Int32) &&& 31)).toInt8.toInt32 = w' at *
  generalize u &&& 255 = u1 at *
  generalize w &&& 255 = w1 at *
  generalize u1 <<< ((0 : Int32) &&& 31) = x at *
  generalize w1 <<< ((8 : Int32) &&& 31) = y at *
  have o := c_or' x y 8 (by decide) 256 (by decide)
  have ro := rng32 (x ||| y)
  have q := c_i2c (x ||| y)
  have hx : x.toInt = c.toInt % 256 := by omega
  have hy : y.toInt = c.toInt / 256 * 256 := by omega
  have o := o (by omega) (by omega) (by omega)
  have e : (x ||| y).toUInt32.toUInt16.toUInt32.toInt32 = c := by
    rw [← Int32.toInt_inj]; omega
  rw [e]
  exact own_narc ⟨h1, h2⟩
theorem own_lE {c : Int32} (p zz : Int32) (h : own_ch c) (hl : ¬ (255 : Int32) < c) : flch_0 p zz (own_by c) = c := by
  obtain ⟨h1, h2⟩ := h
  rw [Int32.lt_iff_toInt_lt, show (255 : Int32).toInt = 255 from by decide] at hl
  unfold flch_0
  have e255 : ((255 : Int32).toBitVec.toNat) = 2 ^ 8 - 1 := by decide
  have a1 := c_i2b c
  have a2 := c_i2b c.toInt8.toInt32
  have m1 := c_mask (own_by c) 255 8 (by decide) e255
  unfold own_by at m1
  unfold own_by
  generalize c.toInt8.toInt32.toInt8.toInt32 = u at *
  generalize c.toInt8.toInt32 = u' at *
  generalize u &&& 255 = u1 at *
  have q := c_i2c u1
  have e : u1.toUInt32.toUInt16.toUInt32.toInt32 = c := by
    rw [← Int32.toInt_inj]; omega
  rw [e]
  exact own_narc ⟨h1, h2⟩
abbrev Qnl1 : Room := { frames := 0, cells := 0, slots := 0, locals := 0 }
/-! body 26, nl1 -/
theorem d26_0 : De H0 0 (.iload_n 0) 1 := by decide +kernel
theorem d26_1 : De H0 1 (.ifCond .ge 11) 3 := by decide +kernel
theorem d26_12 : De H0 12 (.iload_n 0) 1 := by decide +kernel
theorem d26_13 : De H0 13 (.ldc 20) 2 := by decide +kernel
theorem d26_15 : De H0 15 (.if_icmp .lt 40) 3 := by decide +kernel
theorem d26_55 : De H0 55 (.iload_n 0) 1 := by decide +kernel
theorem d26_56 : De H0 56 (.iconst 1) 1 := by decide +kernel
theorem d26_57 : De H0 57 (.ishl) 1 := by decide +kernel
theorem d26_58 : De H0 58 (.ireturn) 1 := by decide +kernel
abbrev y20 : MethodName := ⟨cU, "newBytesLength", "(I)I"⟩
def Rnl1 (t : Int32) : Option Value := some (.int t)
def Knl1 (Z : State)   (h0 : Heap) (n0 : Nat) (t : Int32) (h : Heap) (L : List Loc) : Prop := own_K0 h0 h L
def fnl1_0  : Int32 := (2 : Int32)
set_option maxRecDepth 65536 in
set_option maxHeartbeats 40000000 in
theorem gnl1_0 (hw : HW aw Z) {h0 : Heap} {n0 : Nat}  
    (Bd : BodyLoose p l y20 (head1 (Jvm.Cond.code y20 H0 1 (some .int) :: ws) Qnl1) H0 1 (some .int) e s m #[(.int 1)] below meth c s₁) (hml : c.maxLocals = 1) (hZ : Z.Warmed39 s.vm) (T0 : State) {locs : List Loc} (X0 : Stand p l e Qnl1 s m #[(.int 1)] below meth c T0 locs 0 0) (e0 : T0.heap = h0) (SZ0 : n0 ≤ h0.size) (NF0 : locs = []) :
    own_Go p e below s Qnl1.cells Qnl1.slots (Rnl1 (fnl1_0 )) (Knl1 Z   h0 n0 (fnl1_0 )) (T0.setTop (mkF m 0 #[iv 1] [])) := by
  have hx := Bd.exec
  have hby := Bd.bytes
  have hown : s.vm.findClass cU = some m.cls := findClass_of_methodNamed Bd.named
  have hnm := (name_of_methodNamed Bd.named Bd.method).1
  unfold fnl1_0
  refine op T0 (mkF m 1 #[iv 1] [(.int 1)]) (fun _ k => XS.iloadN X0.here hx rfl (hb hby d26_0) rfl k) ?_
  have hc1 : ¬ ((1 : Int32) < (0 : Int32)) := (by decide)
  refine op T0 (mkF m 13 #[iv 1] [(.int 1)]) (fun _ k => XS.ifYes X0.here hx rfl (pc0 := 1) (pc' := 12) rfl (hb hby d26_1) rfl ((if0 _ _).trans (flt hc1).2.1) (by decide) (by decide) (XS.iloadN X0.here hx rfl (hb hby d26_12) rfl k)) ?_
  refine op T0 (mkF m 15 #[iv 1] [(.int 1073741823), (.int 1)]) (fun _ k => X0.ldcInt hx hown (mvT hZ (ow hw 116 rfl)) (g := (mkF m 13 #[iv 1] [(.int 1)])) rfl (hb hby d26_13) _ k) ?_
  have hc15 : (1 : Int32) < (1073741823 : Int32) := (by decide)
  refine op T0 (mkF m 58 #[iv 1] [(.int 2)]) (fun _ k => XS.icmpYes X0.here hx rfl (pc0 := 15) (pc' := 55) rfl (hb hby d26_15) rfl (tlt hc15).1 (by decide) (by decide) (XS.iloadN X0.here hx rfl (hb hby d26_55) rfl (XS.iconst X0.here hx rfl (hb hby d26_56) (XS.ishl X0.here hx rfl (hb hby d26_57) rfl k)))) ?_
  exact own_ret (w := (.int 2)) X0 hx Bd.notSynchronized Bd.returns rfl (Or.inl ⟨rfl, by simp, _, rfl⟩) (hb hby d26_58) (by rw [e0]; exact ⟨NF0, rfl⟩) (by decide) (by decide)
theorem ef_nl1 (m : MethodId)  : entryFrame m #[(.int 1)] 1 = mkF m 0 #[iv 1] [] := by first | (simp [entryFrame, mkF, argsToLocals, Value.category]; done) | rfl
set_option maxRecDepth 65536 in
set_option maxHeartbeats 40000000 in
theorem rmnl1 (l : Launch) (Z : State) (aw : Array Value) (hw : HW aw Z) (ws : List Jvm.Cond)   (h0 : Heap) (n0 : Nat) (SZ0 : n0 ≤ h0.size) :
    MetFree l y20 (head1 (Jvm.Cond.code y20 H0 1 (some .int) :: ws) Qnl1) (fun a U => a = #[(.int 1)] ∧ Z.Warmed39 U.vm ∧ U.heap = h0) (fun _ _ _ _ _ => True) (fun _ U o U' => ∃ v L, o = .returned v ∧ own_Q (Rnl1 (fnl1_0 )) (Knl1 Z   h0 n0 (fnl1_0 )) v U'.heap L ∧ FrameEnd U o U' L Qnl1.cells Qnl1.slots) := by
  refine MetFree.of_bodySF (plainFor_of_name own_pn4) hisR ?_
  intro p e s m args below meth c s₁ Bd hml0 hP hK
  obtain ⟨rfl, hZ, hh⟩ := hP
  have hml : c.maxLocals = 1 := hml0
  have e0 : s₁.heap = h0 := by rw [← hh, Bd.state]; rfl
  exact own_pre (fun t k => castTop (ef_nl1 m ) k) (gnl1_0 hw   Bd hml hZ s₁ (Stand.of_body Bd) e0 SZ0 rfl)
abbrev Qnf1 : Room := { frames := 1, cells := 1, slots := 2, locals := 20 }
theorem own_pd11 : parseMethodDescriptor "(I)I" = some ⟨[.int], some .int⟩ := by decide +kernel
/-! body 25, nf1 -/
theorem d25_0 : De Hj 0 (.iload_n 0) 1 := by decide +kernel
theorem d25_1 : De Hj 1 (.invokestatic 11) 3 := by decide +kernel
theorem d25_4 : De Hj 4 (.newarray .byte) 2 := by decide +kernel
theorem d25_6 : De Hj 6 (.areturn) 1 := by decide +kernel
abbrev y21 : MethodName := ⟨cU, "newBytesFor", "(I)[B"⟩
def Rnf1 (h0 : Heap) (t : Unit) : Option Value := some (.ref h0.size)
def Knf1 (Z : State)   (h0 : Heap) (n0 : Nat) (t : Unit) (h : Heap) (L : List Loc) : Prop := Fr n0 L ∧ Keep h0 h [] ∧ own_Pv Z h h0.size (2 : Int32) [(0 : Int32), (0 : Int32)] .byte
def fnf1_0  : Unit := ()
set_option maxRecDepth 65536 in
set_option maxHeartbeats 40000000 in
theorem gnf1_0 (hw : HW aw Z) {h0 : Heap} {n0 : Nat}  
    (Bd : BodyLoose p l y21 (head1 (Jvm.Cond.code y21 Hj 1 (some (.array .byte)) :: ws) Qnf1) Hj 1 (some (.array .byte)) e s m #[(.int 1)] below meth c s₁) (hml : c.maxLocals = 1) (hZ : Z.Warmed39 s.vm) (T0 : State) {locs : List Loc} (X0 : Stand p l e Qnf1 s m #[(.int 1)] below meth c T0 locs 0 0) (e0 : T0.heap = h0) (SZ0 : n0 ≤ h0.size) (NF0 : Fr n0 locs) (KP0 : Keep h0 h0 []) :
    own_Go p e below s Qnf1.cells Qnf1.slots (Rnf1 h0 (fnf1_0 )) (Knf1 Z   h0 n0 (fnf1_0 )) (T0.setTop (mkF m 0 #[iv 1] [])) := by
  have hx := Bd.exec
  have hby := Bd.bytes
  have hown : s.vm.findClass cU = some m.cls := findClass_of_methodNamed Bd.named
  have hnm := (name_of_methodNamed Bd.named Bd.method).1
  unfold fnf1_0
  refine op T0 (mkF m 1 #[iv 1] [(.int 1)]) (fun _ k => XS.iloadN X0.here hx rfl (hb hby d25_0) rfl k) ?_
  obtain ⟨_, _, ⟨T1, L1, k1, n1⟩, -, X1', ⟨Lc1, hQ1, l1, y1, z1⟩, st'⟩ := Jvm.LawKit.callS X0 hx (y := y20) hown (mvT hZ (ow hw 113 rfl)) (mvT hZ (ow hw 114 rfl)) (mvT hZ (ow hw 35 rfl)) (mvT hZ (ow hw 115 rfl)) (by decide) (backOf (W := 0) (rmnl1 l Z aw hw []   h0 n0 SZ0 ) hZ (ow hw 115 rfl) (ow hw 35 rfl) (by decide) (by decide)) (g := (mkF m 1 #[iv 1] [(.int 1)])) rfl (by rw [hml]; rfl) (argsL := [(.int 1)]) (rest := []) (lenOf own_pd11 rfl) rfl (by show 2 * 0 + _ ≤ _; exact Nat.le_of_eq rfl) (hb hby d25_1) (fun _ _ => ⟨rfl, e0, (by decide : 0 + 0 ≤ _), (by decide : 0 + 0 ≤ _)⟩)
  dsimp only [Pt.U, Pt.locs, Pt.cells, Pt.slots] at X1' l1 y1 z1 st' hQ1
  subst l1 y1 z1
  obtain ⟨rfl, rfl, e1⟩ := hQ1
  have X1 : Stand p l e Qnf1 s m #[(.int 1)] below meth c T1 _ 0 0 := own_locs X1'
  refine op T1 (mkF m 4 #[iv 1] [(.int 2)]) (fun _ k => st' _ k) ?_
  obtain ⟨T2, h2, k2, X2, e2, E2, A2, st'⟩ := newP X1 hx hZ (ow hw 16 rfl) e1 (g := (mkF m 4 #[iv 1] [(.int 2)])) rfl (hb hby d25_4) rfl (by decide) (cap := 2) (by decide) (by decide) (by decide) (by decide)
  obtain ⟨b2, g2⟩ : ∃ z, z = h0.size := ⟨_, rfl⟩
  rw [← g2] at A2 st'
  have g_b2 : n0 ≤ b2 := Nat.le_trans SZ0 (Nat.le_of_eq g2.symm)
  have sz_b2 : h0.size ≤ b2 := Nat.le_trans KP0.1 (Nat.le_of_eq g2.symm)
  have KP2 := KP0.ext E2
  have SZ2 : n0 ≤ h2.size := Nat.le_trans SZ0 E2.1
  have f3 : own_Pv Z h2 b2 (2 : Int32) [(0 : Int32), (0 : Int32)] .byte := ⟨_, (Arv.new A2 (by decide)).pad (pad_rep [] (.int 0) 2)⟩
  refine op T2 (mkF m 6 #[iv 1] [(.ref b2)]) (fun _ k => st' _ k) ?_
  subst g2
  exact own_ret (w := (.ref h0.size)) X2 hx Bd.notSynchronized Bd.returns rfl (Or.inr (Or.inr ⟨rfl, rfl, rfl⟩)) (hb hby d25_6) (by rw [e2]; exact ⟨NF0, KP2, f3⟩) (by decide) (by decide)
theorem ef_nf1 (m : MethodId)  : entryFrame m #[(.int 1)] 1 = mkF m 0 #[iv 1] [] := by first | (simp [entryFrame, mkF, argsToLocals, Value.category]; done) | rfl
set_option maxRecDepth 65536 in
set_option maxHeartbeats 40000000 in
theorem rmnf1 (l : Launch) (Z : State) (aw : Array Value) (hw : HW aw Z) (ws : List Jvm.Cond)   (h0 : Heap) (n0 : Nat) (SZ0 : n0 ≤ h0.size) :
    MetFree l y21 (head1 (Jvm.Cond.code y21 Hj 1 (some (.array .byte)) :: ws) Qnf1) (fun a U => a = #[(.int 1)] ∧ Z.Warmed39 U.vm ∧ U.heap = h0) (fun _ _ _ _ _ => True) (fun _ U o U' => ∃ v L, o = .returned v ∧ own_Q (Rnf1 h0 (fnf1_0 )) (Knf1 Z   h0 n0 (fnf1_0 )) v U'.heap L ∧ FrameEnd U o U' L Qnf1.cells Qnf1.slots) := by
  refine MetFree.of_bodySF (plainFor_of_name own_pn4) hisR ?_
  intro p e s m args below meth c s₁ Bd hml0 hP hK
  obtain ⟨rfl, hZ, hh⟩ := hP
  have hml : c.maxLocals = 1 := hml0
  have e0 : s₁.heap = h0 := by rw [← hh, Bd.state]; rfl
  exact own_pre (fun t k => castTop (ef_nf1 m ) k) (gnf1_0 hw   Bd hml hZ s₁ (Stand.of_body Bd) e0 SZ0 (Fr.nil n0) (Keep.refl _ _))
abbrev Qpc10 : Room := { frames := 0, cells := 0, slots := 0, locals := 0 }
/-! body 27, pc10 -/
theorem d27_0 : De Gm 0 (.getstatic 44) 3 := by decide +kernel
theorem d27_3 : De Gm 3 (.ifCond .ne 25) 3 := by decide +kernel
theorem d27_28 : De Gm 28 (.iload_n 1) 1 := by decide +kernel
theorem d27_29 : De Gm 29 (.iconst 1) 1 := by decide +kernel
theorem d27_30 : De Gm 30 (.ishl) 1 := by decide +kernel
theorem d27_31 : De Gm 31 (.istore_n 1) 1 := by decide +kernel
theorem d27_32 : De Gm 32 (.aload_n 0) 1 := by decide +kernel
theorem d27_33 : De Gm 33 (.iload_n 1) 1 := by decide +kernel
theorem d27_34 : De Gm 34 (.iinc 1 1) 3 := by decide +kernel
theorem d27_37 : De Gm 37 (.iload_n 2) 1 := by decide +kernel
theorem d27_38 : De Gm 38 (.getstatic 59) 3 := by decide +kernel
theorem d27_41 : De Gm 41 (.ishr) 1 := by decide +kernel
theorem d27_42 : De Gm 42 (.i2b) 1 := by decide +kernel
theorem d27_43 : De Gm 43 (.bastore) 1 := by decide +kernel
theorem d27_44 : De Gm 44 (.aload_n 0) 1 := by decide +kernel
theorem d27_45 : De Gm 45 (.iload_n 1) 1 := by decide +kernel
theorem d27_46 : De Gm 46 (.iload_n 2) 1 := by decide +kernel
theorem d27_47 : De Gm 47 (.getstatic 63) 3 := by decide +kernel
theorem d27_50 : De Gm 50 (.ishr) 1 := by decide +kernel
theorem d27_51 : De Gm 51 (.i2b) 1 := by decide +kernel
theorem d27_52 : De Gm 52 (.bastore) 1 := by decide +kernel
theorem d27_53 : De Gm 53 (.return_) 1 := by decide +kernel
abbrev y22 : MethodName := ⟨cU, "putChar", "([BII)V"⟩
def Rpc10 (t : Unit) : Option Value := none
def Kpc10 (Z : State) (p2 v0 v1 : Int32) (a0 : Addr) (h0 : Heap) (n0 : Nat) (t : Unit) (h : Heap) (L : List Loc) : Prop := Fr n0 L ∧ Keep h0 h [a0] ∧ own_Pv Z h a0 (2 : Int32) [(own_lo p2), (own_hi p2)] .byte ∧ own_J Z h
def fpc10_0 (p2 v0 v1 : Int32) : Unit := ()
set_option maxRecDepth 65536 in
set_option maxHeartbeats 40000000 in
theorem gpc10_0 (hw : HW aw Z) {h0 : Heap} {n0 : Nat} (p2 v0 v1 : Int32) (a0 : Addr)
    (Bd : BodyLoose p l y22 (head1 (Jvm.Cond.code y22 Gm 3 none :: ws) Qpc10) Gm 3 none e s m #[(.ref a0), (.int 0), (.int p2)] below meth c s₁) (hml : c.maxLocals = 3) (hZ : Z.Warmed39 s.vm) (Gb : n0 ≤ a0) (T0 : State) {locs : List Loc} (X0 : Stand p l e Qpc10 s m #[(.ref a0), (.int 0), (.int p2)] below meth c T0 locs 0 0) (e0 : T0.heap = h0) (SZ0 : n0 ≤ h0.size) (NF0 : Fr n0 locs) (KP0 : Keep h0 h0 [a0]) (G0 : own_Pv Z h0 a0 (2 : Int32) [v0, v1] .byte) (J0 : own_J Z h0) :
    own_Go p e below s Qpc10.cells Qpc10.slots (Rpc10 (fpc10_0 p2 v0 v1)) (Kpc10 Z p2 v0 v1 a0 h0 n0 (fpc10_0 p2 v0 v1)) (T0.setTop (mkF m 0 #[rv a0, iv 0, iv p2] [])) := by
  have hx := Bd.exec
  have hby := Bd.bytes
  have hown : s.vm.findClass cU = some m.cls := findClass_of_methodNamed Bd.named
  have hnm := (name_of_methodNamed Bd.named Bd.method).1
  unfold fpc10_0
  obtain ⟨cs, sf, js⟩ := id J0
  obtain ⟨T1, X1, e1, st'⟩ := getS2 X0 hx hZ hown (host := "") (Or.inl (ow hw 120 rfl)) Via.refl e0 js.2.2.1 (g := (mkF m 0 #[rv a0, iv 0, iv p2] [])) rfl (hb hby d27_0)
  refine op T1 (mkF m 3 #[rv a0, iv 0, iv p2] [(.int 1)]) (fun _ k => st' _ k) ?_
  have hc3 : ¬ ((1 : Int32) = (0 : Int32)) := (show ¬ (1 : Int32) = 0 by decide)
  refine op T1 (mkF m 37 #[rv a0, iv 1, iv p2] [(.int 0), (.ref a0)]) (fun _ k => XS.ifYes X1.here hx rfl (pc0 := 3) (pc' := 28) rfl (hb hby d27_3) rfl ((if0 _ _).trans (feq hc3).2) (by decide) (by decide) (XS.iloadN X1.here hx rfl (hb hby d27_28) rfl (XS.iconst X1.here hx rfl (hb hby d27_29) (XS.ishl X1.here hx rfl (hb hby d27_30) rfl (XS.istoreN X1.here hx rfl (hb hby d27_31) rfl (l' := #[rv a0, iv 0, iv p2]) rfl (XS.aloadN X1.here hx rfl (hb hby d27_32) rfl rfl (XS.iloadN X1.here hx rfl (hb hby d27_33) rfl (XS.iinc X1.here hx rfl (hb hby d27_34) rfl (l' := #[rv a0, iv 1, iv p2]) rfl k)))))))) ?_
  refine op T1 (mkF m 38 #[rv a0, iv 1, iv p2] [(.int p2), (.int 0), (.ref a0)]) (fun _ k => XS.iloadN X1.here hx rfl (hb hby d27_37) rfl k) ?_
  obtain ⟨cs, sf, js⟩ := id J0
  obtain ⟨T2, X2, e2, st'⟩ := getS2 X1 hx hZ hown (host := "") (Or.inl (ow hw 121 rfl)) Via.refl e1 js.2.2.2.1 (g := (mkF m 38 #[rv a0, iv 1, iv p2] [(.int p2), (.int 0), (.ref a0)])) rfl (hb hby d27_38)
  refine op T2 (mkF m 43 #[rv a0, iv 1, iv p2] [(.int ((p2 >>> ((0 : Int32) &&& 31)).toInt8.toInt32)), (.int 0), (.ref a0)]) (fun _ k => st' _ (XS.ishr X2.here hx rfl (hb hby d27_41) rfl (XS.i2b X2.here hx rfl (hb hby d27_42) rfl k))) ?_
  obtain ⟨k3, cl3, Ar3, q3, S3, N3, H3, G3⟩ := id G0
  have hin3 : ¬ ((0 : Int32) < 0 ∨ cl3.slots.size ≤ ((0 : Int32)).toNatClampNeg) := inb_of S3 ⟨by decide, by decide⟩
  obtain ⟨T3, h3, X3, e3, W3, st'⟩ := stB X2 hx hZ e2 Ar3 (j := (0 : Int32)) hin3 (g := (mkF m 43 #[rv a0, iv 1, iv p2] [(.int ((p2 >>> ((0 : Int32) &&& 31)).toInt8.toInt32)), (.int 0), (.ref a0)])) rfl rfl (hb hby d27_43)
  have f4 : own_Pv Z h3 a0 (2 : Int32) [(((p2 >>> ((0 : Int32) &&& 31)).toInt8.toInt32).toInt8.toInt32), v1] .byte := ⟨_, Arv.set Ar3 q3 S3 N3 H3 G3 (fits_nar_byte _) W3 0 rfl (Nat.le_of_ble_eq_true rfl)⟩
  have f5 := own_J.wr J0 W3
  have NF3 := Fr.snoc X3 NF0 Gb
  have SZ3 : n0 ≤ h3.size := (Nat.le_trans SZ0 (Keep.of_wr W3).1)
  have KP3 : Keep h0 h3 [a0] := KP0.wr W3 (Or.inl (List.mem_of_getElem? (i := 0) rfl))
  refine op T3 (mkF m 47 #[rv a0, iv 1, iv p2] [(.int p2), (.int 1), (.ref a0)]) (fun _ k => st' _ (XS.aloadN X3.here hx rfl (hb hby d27_44) rfl rfl (XS.iloadN X3.here hx rfl (hb hby d27_45) rfl (XS.iloadN X3.here hx rfl (hb hby d27_46) rfl k)))) ?_
  obtain ⟨cs, sf, js⟩ := id f5
  obtain ⟨T6, X6, e6, st'⟩ := getS2 X3 hx hZ hown (host := "") (Or.inl (ow hw 122 rfl)) Via.refl e3 js.2.2.2.2.1 (g := (mkF m 47 #[rv a0, iv 1, iv p2] [(.int p2), (.int 1), (.ref a0)])) rfl (hb hby d27_47)
  refine op T6 (mkF m 52 #[rv a0, iv 1, iv p2] [(.int ((p2 >>> ((8 : Int32) &&& 31)).toInt8.toInt32)), (.int 1), (.ref a0)]) (fun _ k => st' _ (XS.ishr X6.here hx rfl (hb hby d27_50) rfl (XS.i2b X6.here hx rfl (hb hby d27_51) rfl k))) ?_
  obtain ⟨k7, cl7, Ar7, q7, S7, N7, H7, G7⟩ := id f4
  have hin7 : ¬ ((1 : Int32) < 0 ∨ cl7.slots.size ≤ ((1 : Int32)).toNatClampNeg) := inb_of S7 ⟨by decide, by decide⟩
  obtain ⟨T7, h7, X7, e7, W7, st'⟩ := stB X6 hx hZ e6 Ar7 (j := (1 : Int32)) hin7 (g := (mkF m 52 #[rv a0, iv 1, iv p2] [(.int ((p2 >>> ((8 : Int32) &&& 31)).toInt8.toInt32)), (.int 1), (.ref a0)])) rfl rfl (hb hby d27_52)
  have f8 : own_Pv Z h7 a0 (2 : Int32) [(((p2 >>> ((0 : Int32) &&& 31)).toInt8.toInt32).toInt8.toInt32), (((p2 >>> ((8 : Int32) &&& 31)).toInt8.toInt32).toInt8.toInt32)] .byte := ⟨_, Arv.set Ar7 q7 S7 N7 H7 G7 (fits_nar_byte _) W7 1 rfl (Nat.le_of_ble_eq_true rfl)⟩
  have f9 := own_J.wr f5 W7
  have NF7 := Fr.snoc X7 NF3 Gb
  have SZ7 : n0 ≤ h7.size := (Nat.le_trans SZ3 (Keep.of_wr W7).1)
  have KP7 : Keep h0 h7 [a0] := KP3.wr W7 (Or.inl (List.mem_of_getElem? (i := 0) rfl))
  refine op T7 (mkF m 53 #[rv a0, iv 1, iv p2] []) (fun _ k => st' _ k) ?_
  exact own_retV X7 hx Bd.notSynchronized Bd.returns (hb hby d27_53) (by rw [e7]; exact ⟨NF7, KP7, f8, f9⟩) (by decide) (by decide)
theorem ef_pc10 (m : MethodId) (a0 : Addr) (p2 : Int32) : entryFrame m #[(.ref a0), (.int 0), (.int p2)] 3 = mkF m 0 #[rv a0, iv 0, iv p2] [] := by first | (simp [entryFrame, mkF, argsToLocals, Value.category]; done) | rfl
set_option maxRecDepth 65536 in
set_option maxHeartbeats 40000000 in
theorem rmpc10 (l : Launch) (Z : State) (aw : Array Value) (hw : HW aw Z) (ws : List Jvm.Cond) (p2 v0 v1 : Int32) (a0 : Addr) (h0 : Heap) (n0 : Nat) (SZ0 : n0 ≤ h0.size) (G0 : own_Pv Z h0 a0 (2 : Int32) [v0, v1] .byte) (J0 : own_J Z h0) (Gb : n0 ≤ a0) :
    MetFree l y22 (head1 (Jvm.Cond.code y22 Gm 3 none :: ws) Qpc10) (fun a U => a = #[(.ref a0), (.int 0), (.int p2)] ∧ Z.Warmed39 U.vm ∧ U.heap = h0) (fun _ _ _ _ _ => True) (fun _ U o U' => ∃ v L, o = .returned v ∧ own_Q (Rpc10 (fpc10_0 p2 v0 v1)) (Kpc10 Z p2 v0 v1 a0 h0 n0 (fpc10_0 p2 v0 v1)) v U'.heap L ∧ FrameEnd U o U' L Qpc10.cells Qpc10.slots) := by
  refine MetFree.of_bodySF (plainFor_of_name own_pn4) hisR ?_
  intro p e s m args below meth c s₁ Bd hml0 hP hK
  obtain ⟨rfl, hZ, hh⟩ := hP
  have hml : c.maxLocals = 3 := hml0
  have e0 : s₁.heap = h0 := by rw [← hh, Bd.state]; rfl
  exact own_pre (fun t k => castTop (ef_pc10 m a0 p2) k) (gpc10_0 hw p2 v0 v1 a0 Bd hml hZ Gb s₁ (Stand.of_body Bd) e0 SZ0 (Fr.nil n0) (Keep.refl _ _) G0 J0)
abbrev Qtb1 : Room := { frames := 2, cells := 1, slots := 2, locals := 40 }
theorem own_pd12 : parseMethodDescriptor "(I)[B" = some ⟨[.int], some (.array .byte)⟩ := by decide +kernel
theorem own_pd13 : parseMethodDescriptor "([BII)V" = some ⟨[(.array .byte), .int, .int], none⟩ := by decide +kernel
/-! body 24, tb1 -/
theorem d24_0 : De Gt 0 (.iload_n 2) 1 := by decide +kernel
theorem d24_1 : De Gt 1 (.invokestatic 107) 3 := by decide +kernel
theorem d24_4 : De Gt 4 (.astore_n 3) 1 := by decide +kernel
theorem d24_5 : De Gt 5 (.iconst 0) 1 := by decide +kernel
theorem d24_6 : De Gt 6 (.istore 4) 2 := by decide +kernel
theorem d24_8 : De Gt 8 (.iload 4) 2 := by decide +kernel
theorem d24_10 : De Gt 10 (.iload_n 2) 1 := by decide +kernel
theorem d24_11 : De Gt 11 (.if_icmp .ge 21) 3 := by decide +kernel
theorem d24_14 : De Gt 14 (.aload_n 3) 1 := by decide +kernel
theorem d24_15 : De Gt 15 (.iload 4) 2 := by decide +kernel
theorem d24_17 : De Gt 17 (.aload_n 0) 1 := by decide +kernel
theorem d24_18 : De Gt 18 (.iload_n 1) 1 := by decide +kernel
theorem d24_19 : De Gt 19 (.caload) 1 := by decide +kernel
theorem d24_20 : De Gt 20 (.invokestatic 111) 3 := by decide +kernel
theorem d24_23 : De Gt 23 (.iinc 1 1) 3 := by decide +kernel
theorem d24_26 : De Gt 26 (.iinc 4 1) 3 := by decide +kernel
theorem d24_29 : De Gt 29 (.goto (-21)) 3 := by decide +kernel
theorem d24_32 : De Gt 32 (.aload_n 3) 1 := by decide +kernel
theorem d24_33 : De Gt 33 (.areturn) 1 := by decide +kernel
abbrev y23 : MethodName := ⟨cU, "toBytes", "([CII)[B"⟩
def Rtb1 (h0 : Heap) (t : Unit) : Option Value := some (.ref h0.size)
def Ktb1 (Z : State) (c0 : Int32) (a0 : Addr) (h0 : Heap) (n0 : Nat) (t : Unit) (h : Heap) (L : List Loc) : Prop := Fr n0 L ∧ Keep h0 h [] ∧ own_Pv Z h h0.size (2 : Int32) [(own_lo c0), (own_hi c0)] .byte ∧ own_J Z h
def ftb1_0 (c0 : Int32) : Unit := ()
set_option maxRecDepth 65536 in
set_option maxHeartbeats 40000000 in
theorem gtb1_0 (hw : HW aw Z) {h0 : Heap} {n0 : Nat} (c0 : Int32) (a0 : Addr)
    (Bd : BodyLoose p l y23 (head1 (Jvm.Cond.code y23 Gt 5 (some (.array .byte)) :: ws) Qtb1) Gt 5 (some (.array .byte)) e s m #[(.ref a0), (.int 0), (.int 1)] below meth c s₁) (hml : c.maxLocals = 5) (hZ : Z.Warmed39 s.vm) (T0 : State) {locs : List Loc} (X0 : Stand p l e Qtb1 s m #[(.ref a0), (.int 0), (.int 1)] below meth c T0 locs 0 0) (e0 : T0.heap = h0) (SZ0 : n0 ≤ h0.size) (NF0 : Fr n0 locs) (KP0 : Keep h0 h0 []) (G0 : own_Pv Z h0 a0 (1 : Int32) [c0] .char) (J0 : own_J Z h0) :
    own_Go p e below s Qtb1.cells Qtb1.slots (Rtb1 h0 (ftb1_0 c0)) (Ktb1 Z c0 a0 h0 n0 (ftb1_0 c0)) (T0.setTop (mkF m 0 #[rv a0, iv 0, iv 1, uu, uu] [])) := by
  have hx := Bd.exec
  have hby := Bd.bytes
  have hown : s.vm.findClass cU = some m.cls := findClass_of_methodNamed Bd.named
  have hnm := (name_of_methodNamed Bd.named Bd.method).1
  unfold ftb1_0
  refine op T0 (mkF m 1 #[rv a0, iv 0, iv 1, uu, uu] [(.int 1)]) (fun _ k => XS.iloadN X0.here hx rfl (hb hby d24_0) rfl k) ?_
  obtain ⟨_, _, ⟨T1, L1, k1, n1⟩, -, X1', ⟨Lc1, hQ1, l1, y1, z1⟩, st'⟩ := Jvm.LawKit.callS X0 hx (y := y21) hown (mvT hZ (ow hw 110 rfl)) (mvT hZ (ow hw 111 rfl)) (mvT hZ (ow hw 35 rfl)) (mvT hZ (ow hw 112 rfl)) (by decide) (backOf (W := 0) (rmnf1 l Z aw hw []   h0 n0 SZ0 ) hZ (ow hw 112 rfl) (ow hw 35 rfl) (by decide) (by decide)) (g := (mkF m 1 #[rv a0, iv 0, iv 1, uu, uu] [(.int 1)])) rfl (by rw [hml]; rfl) (argsL := [(.int 1)]) (rest := []) (lenOf own_pd12 rfl) rfl (by show 2 * 0 + _ ≤ _; exact Nat.le_of_eq rfl) (hb hby d24_1) (fun _ _ => ⟨rfl, e0, (by decide : 0 + 1 ≤ _), (by decide : 0 + 2 ≤ _)⟩)
  dsimp only [Pt.U, Pt.locs, Pt.cells, Pt.slots] at X1' l1 y1 z1 st' hQ1
  subst l1 y1 z1
  obtain ⟨rfl, NFq1, KPq1, p1_0⟩ := hQ1
  have X1 : Stand p l e Qtb1 s m #[(.ref a0), (.int 0), (.int 1)] below meth c T1 _ 1 2 := X1'
  have NF1 := Fr.app NF0 NFq1
  have SZ1 : n0 ≤ T1.heap.size := Nat.le_trans SZ0 KPq1.1
  have KP1 : Keep h0 T1.heap [] := KP0.trans KPq1 all0
  obtain ⟨b1, g1⟩ : ∃ z, z = h0.size := ⟨_, rfl⟩
  simp only [Rnf1, ← g1] at st' p1_0
  have Gu : n0 ≤ b1 := Nat.le_trans SZ0 (Nat.le_of_eq g1.symm)
  have Gr : h0.size ≤ b1 := Nat.le_trans KP0.1 (Nat.le_of_eq g1.symm)
  have Go : a0 ≠ b1 := Nat.ne_of_lt (Nat.lt_of_lt_of_le G0.lt (Nat.le_of_eq g1.symm))
  have f2 := G0.keep KPq1 nin0
  have f3 := own_J.keep J0 KPq1
  refine op T1 (mkF m 11 #[rv a0, iv 0, iv 1, rv b1, iv 0] [(.int 1), (.int 0)]) (fun _ k => st' _ (XS.astoreN X1.here hx rfl (hb hby d24_4) rfl rfl (l' := #[rv a0, iv 0, iv 1, rv b1, uu]) rfl (XS.iconst X1.here hx rfl (hb hby d24_5) (XS.istore X1.here hx rfl (hb hby d24_6) rfl (l' := #[rv a0, iv 0, iv 1, rv b1, iv 0]) rfl (XS.iload X1.here hx rfl (hb hby d24_8) rfl (XS.iloadN X1.here hx rfl (hb hby d24_10) rfl k)))))) ?_
  have hd4 : (0 : Int32) < (1 : Int32) := by decide
  refine op T1 (mkF m 19 #[rv a0, iv 0, iv 1, rv b1, iv 0] [(.int 0), (.ref a0), (.int 0), (.ref b1)]) (fun _ k => XS.icmpNo X1.here hx rfl (hb hby d24_11) rfl (tlt hd4).2.1 (XS.aloadN X1.here hx rfl (hb hby d24_14) rfl rfl (XS.iload X1.here hx rfl (hb hby d24_15) rfl (XS.aloadN X1.here hx rfl (hb hby d24_17) rfl rfl (XS.iloadN X1.here hx rfl (hb hby d24_18) rfl k))))) ?_
  obtain ⟨k5, cl5, Ar5, q5, S5, N5, H5, G5⟩ := id f2
  have hin5 : ¬ ((0 : Int32) < 0 ∨ cl5.slots.size ≤ ((0 : Int32)).toNatClampNeg) := inb_of S5 ⟨by decide, by decide⟩
  refine op T1 (mkF m 20 #[rv a0, iv 0, iv 1, rv b1, iv 0] [(.int c0), (.int 0), (.ref b1)]) (fun t k => X1.caload hx (j := (0 : Int32)) (v := (.int c0)) (by rw [(rfl : T1.heap = T1.heap)]; exact Ar5.1) (State.isArrayOf_alike hZ.alike Ar5.2.1) Ar5.2.2 hin5 (H5.at hin5 rfl) (g := (mkF m 19 #[rv a0, iv 0, iv 1, rv b1, iv 0] [(.int 0), (.ref a0), (.int 0), (.ref b1)])) rfl rfl (hb hby d24_19) t k) ?_
  obtain ⟨_, _, ⟨T6, L6, k6, n6⟩, -, X6', ⟨Lc6, hQ6, l6, y6, z6⟩, st'⟩ := Jvm.LawKit.callS X1 hx (y := y22) hown (mvT hZ (ow hw 117 rfl)) (mvT hZ (ow hw 118 rfl)) (mvT hZ (ow hw 35 rfl)) (mvT hZ (ow hw 119 rfl)) (by decide) (backOf (W := 0) (rmpc10 l Z aw hw [] c0 (0 : Int32) (0 : Int32) b1 T1.heap n0 SZ1 p1_0 f3 Gu) hZ (ow hw 119 rfl) (ow hw 35 rfl) (by decide) (by decide)) (g := (mkF m 20 #[rv a0, iv 0, iv 1, rv b1, iv 0] [(.int c0), (.int 0), (.ref b1)])) rfl (by rw [hml]; rfl) (argsL := [(.ref b1), (.int 0), (.int c0)]) (rest := []) (lenOf own_pd13 rfl) rfl (by show 2 * 0 + _ ≤ _; exact Nat.le_of_eq rfl) (hb hby d24_20) (fun _ _ => ⟨rfl, (rfl : T1.heap = T1.heap), (by decide : 1 + 0 ≤ _), (by decide : 2 + 0 ≤ _)⟩)
  dsimp only [Pt.U, Pt.locs, Pt.cells, Pt.slots] at X6' l6 y6 z6 st' hQ6
  subst l6 y6 z6
  obtain ⟨rfl, NFq6, KPq6, p6_0, p6_1⟩ := hQ6
  have X6 : Stand p l e Qtb1 s m #[(.ref a0), (.int 0), (.int 1)] below meth c T6 _ 1 2 := X6'
  have NF6 := Fr.app NF1 NFq6
  have SZ6 : n0 ≤ T6.heap.size := Nat.le_trans SZ1 KPq6.1
  have KP6 : Keep h0 T6.heap [] := KP1.trans KPq6 (allS (Or.inr Gr) all0)
  have f7 := f2.keep KPq6 (ninS Go nin0)
  refine op T6 (mkF m 11 #[rv a0, iv 1, iv 1, rv b1, iv 1] [(.int 1), (.int 1)]) (fun _ k => st' _ (XS.iinc X6.here hx rfl (hb hby d24_23) rfl (l' := #[rv a0, iv 1, iv 1, rv b1, iv 0]) rfl (XS.iinc X6.here hx rfl (hb hby d24_26) rfl (l' := #[rv a0, iv 1, iv 1, rv b1, iv 1]) rfl (XS.goto X6.here hx rfl (pc0 := 29) (pc' := 8) rfl (hb hby d24_29) (by decide) (by decide) (XS.iload X6.here hx rfl (hb hby d24_8) rfl (XS.iloadN X6.here hx rfl (hb hby d24_10) rfl k)))))) ?_
  have hd8 : ¬ ((1 : Int32) < (1 : Int32)) := by decide
  refine op T6 (mkF m 33 #[rv a0, iv 1, iv 1, rv b1, iv 1] [(.ref b1)]) (fun _ k => XS.icmpYes X6.here hx rfl (pc0 := 11) (pc' := 32) rfl (hb hby d24_11) rfl (flt hd8).2.1 (by decide) (by decide) (XS.aloadN X6.here hx rfl (hb hby d24_32) rfl rfl k)) ?_
  subst g1
  exact own_ret (w := (.ref h0.size)) X6 hx Bd.notSynchronized Bd.returns rfl (Or.inr (Or.inr ⟨rfl, rfl, rfl⟩)) (hb hby d24_33) ⟨NF6, KP6, p6_0, p6_1⟩ (by decide) (by decide)
theorem ef_tb1 (m : MethodId) (a0 : Addr) : entryFrame m #[(.ref a0), (.int 0), (.int 1)] 5 = mkF m 0 #[rv a0, iv 0, iv 1, uu, uu] [] := by first | (simp [entryFrame, mkF, argsToLocals, Value.category]; done) | rfl
set_option maxRecDepth 65536 in
set_option maxHeartbeats 40000000 in
theorem rmtb1 (l : Launch) (Z : State) (aw : Array Value) (hw : HW aw Z) (ws : List Jvm.Cond) (c0 : Int32) (a0 : Addr) (h0 : Heap) (n0 : Nat) (SZ0 : n0 ≤ h0.size) (G0 : own_Pv Z h0 a0 (1 : Int32) [c0] .char) (J0 : own_J Z h0) :
    MetFree l y23 (head1 (Jvm.Cond.code y23 Gt 5 (some (.array .byte)) :: ws) Qtb1) (fun a U => a = #[(.ref a0), (.int 0), (.int 1)] ∧ Z.Warmed39 U.vm ∧ U.heap = h0) (fun _ _ _ _ _ => True) (fun _ U o U' => ∃ v L, o = .returned v ∧ own_Q (Rtb1 h0 (ftb1_0 c0)) (Ktb1 Z c0 a0 h0 n0 (ftb1_0 c0)) v U'.heap L ∧ FrameEnd U o U' L Qtb1.cells Qtb1.slots) := by
  refine MetFree.of_bodySF (plainFor_of_name own_pn4) hisR ?_
  intro p e s m args below meth c s₁ Bd hml0 hP hK
  obtain ⟨rfl, hZ, hh⟩ := hP
  have hml : c.maxLocals = 5 := hml0
  have e0 : s₁.heap = h0 := by rw [← hh, Bd.state]; rfl
  exact own_pre (fun t k => castTop (ef_tb1 m a0) k) (gtb1_0 hw c0 a0 Bd hml hZ s₁ (Stand.of_body Bd) e0 SZ0 (Fr.nil n0) (Keep.refl _ _) G0 J0)
abbrev Qc2L1 : Room := { frames := 0, cells := 0, slots := 0, locals := 0 }
/-! body 7, c2L1 -/
theorem d7_0 : De Gj 0 (.iconst 0) 1 := by decide +kernel
theorem d7_1 : De Gj 1 (.istore 5) 2 := by decide +kernel
theorem d7_3 : De Gj 3 (.iload 5) 2 := by decide +kernel
theorem d7_5 : De Gj 5 (.iload 4) 2 := by decide +kernel
theorem d7_7 : De Gj 7 (.if_icmp .ge 37) 3 := by decide +kernel
theorem d7_10 : De Gj 10 (.aload_n 0) 1 := by decide +kernel
theorem d7_11 : De Gj 11 (.iload_n 1) 1 := by decide +kernel
theorem d7_12 : De Gj 12 (.caload) 1 := by decide +kernel
theorem d7_13 : De Gj 13 (.istore 6) 2 := by decide +kernel
theorem d7_15 : De Gj 15 (.iload 6) 2 := by decide +kernel
theorem d7_17 : De Gj 17 (.sipush 255) 3 := by decide +kernel
theorem d7_20 : De Gj 20 (.if_icmp .le 6) 3 := by decide +kernel
theorem d7_23 : De Gj 23 (.iload 5) 2 := by decide +kernel
theorem d7_25 : De Gj 25 (.ireturn) 1 := by decide +kernel
theorem d7_26 : De Gj 26 (.aload_n 2) 1 := by decide +kernel
theorem d7_27 : De Gj 27 (.iload_n 3) 1 := by decide +kernel
theorem d7_28 : De Gj 28 (.iload 6) 2 := by decide +kernel
theorem d7_30 : De Gj 30 (.i2b) 1 := by decide +kernel
theorem d7_31 : De Gj 31 (.bastore) 1 := by decide +kernel
theorem d7_32 : De Gj 32 (.iinc 1 1) 3 := by decide +kernel
theorem d7_35 : De Gj 35 (.iinc 3 1) 3 := by decide +kernel
theorem d7_38 : De Gj 38 (.iinc 5 1) 3 := by decide +kernel
theorem d7_41 : De Gj 41 (.goto (-38)) 3 := by decide +kernel
theorem d7_44 : De Gj 44 (.iload 4) 2 := by decide +kernel
theorem d7_46 : De Gj 46 (.ireturn) 1 := by decide +kernel
abbrev y24 : MethodName := ⟨cU, "compress", "([CI[BII)I"⟩
def Rc2L1 (t : Int32) : Option Value := some (.int t)
def Kc2L1 (Z : State) (c0 : Int32) (a0 a2 : Addr) (h0 : Heap) (n0 : Nat) (t : Int32) (h : Heap) (L : List Loc) : Prop := Fr n0 L ∧ Keep h0 h [a2] ∧ own_Pv Z h a2 (1 : Int32) [(own_by c0)] .byte ∧ own_J Z h
def fc2L1_0 (c0 : Int32) : Int32 := (1 : Int32)
set_option maxRecDepth 65536 in
set_option maxHeartbeats 40000000 in
theorem gc2L1_0 (hw : HW aw Z) {h0 : Heap} {n0 : Nat} (c0 : Int32) (a0 a2 : Addr) (Gv : a0 ≠ a2) (hL0 : ¬ (255 : Int32) < c0)
    (Bd : BodyLoose p l y24 (head1 (Jvm.Cond.code y24 Gj 7 (some .int) :: ws) Qc2L1) Gj 7 (some .int) e s m #[(.ref a0), (.int 0), (.ref a2), (.int 0), (.int 1)] below meth c s₁) (hml : c.maxLocals = 7) (hZ : Z.Warmed39 s.vm) (Gn : n0 ≤ a2) (T0 : State) {locs : List Loc} (X0 : Stand p l e Qc2L1 s m #[(.ref a0), (.int 0), (.ref a2), (.int 0), (.int 1)] below meth c T0 locs 0 0) (e0 : T0.heap = h0) (SZ0 : n0 ≤ h0.size) (NF0 : Fr n0 locs) (KP0 : Keep h0 h0 [a2]) (G0 : own_Pv Z h0 a0 (1 : Int32) [c0] .char) (Gp : own_Pv Z h0 a2 (1 : Int32) [(0 : Int32)] .byte) (J0 : own_J Z h0) :
    own_Go p e below s Qc2L1.cells Qc2L1.slots (Rc2L1 (fc2L1_0 c0)) (Kc2L1 Z c0 a0 a2 h0 n0 (fc2L1_0 c0)) (T0.setTop (mkF m 0 #[rv a0, iv 0, rv a2, iv 0, iv 1, uu, uu] [])) := by
  have hx := Bd.exec
  have hby := Bd.bytes
  have hown : s.vm.findClass cU = some m.cls := findClass_of_methodNamed Bd.named
  have hnm := (name_of_methodNamed Bd.named Bd.method).1
  unfold fc2L1_0
  refine op T0 (mkF m 7 #[rv a0, iv 0, rv a2, iv 0, iv 1, iv 0, uu] [(.int 1), (.int 0)]) (fun _ k => XS.iconst X0.here hx rfl (hb hby d7_0) (XS.istore X0.here hx rfl (hb hby d7_1) rfl (l' := #[rv a0, iv 0, rv a2, iv 0, iv 1, iv 0, uu]) rfl (XS.iload X0.here hx rfl (hb hby d7_3) rfl (XS.iload X0.here hx rfl (hb hby d7_5) rfl k)))) ?_
  have hd1 : (0 : Int32) < (1 : Int32) := by decide
  refine op T0 (mkF m 12 #[rv a0, iv 0, rv a2, iv 0, iv 1, iv 0, uu] [(.int 0), (.ref a0)]) (fun _ k => XS.icmpNo X0.here hx rfl (hb hby d7_7) rfl (tlt hd1).2.1 (XS.aloadN X0.here hx rfl (hb hby d7_10) rfl rfl (XS.iloadN X0.here hx rfl (hb hby d7_11) rfl k))) ?_
  obtain ⟨k2, cl2, Ar2, q2, S2, N2, H2, G2⟩ := id G0
  have hin2 : ¬ ((0 : Int32) < 0 ∨ cl2.slots.size ≤ ((0 : Int32)).toNatClampNeg) := inb_of S2 ⟨by decide, by decide⟩
  refine op T0 (mkF m 13 #[rv a0, iv 0, rv a2, iv 0, iv 1, iv 0, uu] [(.int c0)]) (fun t k => X0.caload hx (j := (0 : Int32)) (v := (.int c0)) (by rw [e0]; exact Ar2.1) (State.isArrayOf_alike hZ.alike Ar2.2.1) Ar2.2.2 hin2 (H2.at hin2 rfl) (g := (mkF m 12 #[rv a0, iv 0, rv a2, iv 0, iv 1, iv 0, uu] [(.int 0), (.ref a0)])) rfl rfl (hb hby d7_12) t k) ?_
  refine op T0 (mkF m 20 #[rv a0, iv 0, rv a2, iv 0, iv 1, iv 0, iv c0] [(.int 255), (.int c0)]) (fun _ k => XS.istore X0.here hx rfl (hb hby d7_13) rfl (l' := #[rv a0, iv 0, rv a2, iv 0, iv 1, iv 0, iv c0]) rfl (XS.iload X0.here hx rfl (hb hby d7_15) rfl (XS.sipush X0.here hx rfl (hb hby d7_17) k))) ?_
  have hc20 : ¬ ((255 : Int32) < c0) := hL0
  refine op T0 (mkF m 31 #[rv a0, iv 0, rv a2, iv 0, iv 1, iv 0, iv c0] [(.int (c0.toInt8.toInt32)), (.int 0), (.ref a2)]) (fun _ k => XS.icmpYes X0.here hx rfl (pc0 := 20) (pc' := 26) rfl (hb hby d7_20) rfl (flt hc20).2.2.2 (by decide) (by decide) (XS.aloadN X0.here hx rfl (hb hby d7_26) rfl rfl (XS.iloadN X0.here hx rfl (hb hby d7_27) rfl (XS.iload X0.here hx rfl (hb hby d7_28) rfl (XS.i2b X0.here hx rfl (hb hby d7_30) rfl k))))) ?_
  obtain ⟨k3, cl3, Ar3, q3, S3, N3, H3, G3⟩ := id Gp
  have hin3 : ¬ ((0 : Int32) < 0 ∨ cl3.slots.size ≤ ((0 : Int32)).toNatClampNeg) := inb_of S3 ⟨by decide, by decide⟩
  obtain ⟨T3, h3, X3, e3, W3, st'⟩ := stB X0 hx hZ e0 Ar3 (j := (0 : Int32)) hin3 (g := (mkF m 31 #[rv a0, iv 0, rv a2, iv 0, iv 1, iv 0, iv c0] [(.int (c0.toInt8.toInt32)), (.int 0), (.ref a2)])) rfl rfl (hb hby d7_31)
  have f4 : own_Pv Z h3 a2 (1 : Int32) [((c0.toInt8.toInt32).toInt8.toInt32)] .byte := ⟨_, Arv.set Ar3 q3 S3 N3 H3 G3 (fits_nar_byte _) W3 0 rfl (Nat.le_of_ble_eq_true rfl)⟩
  have f5 := G0.other W3 Gv
  have f6 := own_J.wr J0 W3
  have NF3 := Fr.snoc X3 NF0 Gn
  have SZ3 : n0 ≤ h3.size := (Nat.le_trans SZ0 (Keep.of_wr W3).1)
  have KP3 : Keep h0 h3 [a2] := KP0.wr W3 (Or.inl (List.mem_of_getElem? (i := 0) rfl))
  refine op T3 (mkF m 7 #[rv a0, iv 1, rv a2, iv 1, iv 1, iv 1, iv c0] [(.int 1), (.int 1)]) (fun _ k => st' _ (XS.iinc X3.here hx rfl (hb hby d7_32) rfl (l' := #[rv a0, iv 1, rv a2, iv 0, iv 1, iv 0, iv c0]) rfl (XS.iinc X3.here hx rfl (hb hby d7_35) rfl (l' := #[rv a0, iv 1, rv a2, iv 1, iv 1, iv 0, iv c0]) rfl (XS.iinc X3.here hx rfl (hb hby d7_38) rfl (l' := #[rv a0, iv 1, rv a2, iv 1, iv 1, iv 1, iv c0]) rfl (XS.goto X3.here hx rfl (pc0 := 41) (pc' := 3) rfl (hb hby d7_41) (by decide) (by decide) (XS.iload X3.here hx rfl (hb hby d7_3) rfl (XS.iload X3.here hx rfl (hb hby d7_5) rfl k))))))) ?_
  have hd7 : ¬ ((1 : Int32) < (1 : Int32)) := by decide
  refine op T3 (mkF m 46 #[rv a0, iv 1, rv a2, iv 1, iv 1, iv 1, iv c0] [(.int 1)]) (fun _ k => XS.icmpYes X3.here hx rfl (pc0 := 7) (pc' := 44) rfl (hb hby d7_7) rfl (flt hd7).2.1 (by decide) (by decide) (XS.iload X3.here hx rfl (hb hby d7_44) rfl k)) ?_
  exact own_ret (w := (.int 1)) X3 hx Bd.notSynchronized Bd.returns rfl (Or.inl ⟨rfl, by simp, _, rfl⟩) (hb hby d7_46) (by rw [e3]; exact ⟨NF3, KP3, f4, f6⟩) (by decide) (by decide)
theorem ef_c2L1 (m : MethodId) (a0 a2 : Addr) : entryFrame m #[(.ref a0), (.int 0), (.ref a2), (.int 0), (.int 1)] 7 = mkF m 0 #[rv a0, iv 0, rv a2, iv 0, iv 1, uu, uu] [] := by first | (simp [entryFrame, mkF, argsToLocals, Value.category]; done) | rfl
set_option maxRecDepth 65536 in
set_option maxHeartbeats 40000000 in
theorem rmc2L1 (l : Launch) (Z : State) (aw : Array Value) (hw : HW aw Z) (ws : List Jvm.Cond) (c0 : Int32) (a0 a2 : Addr) (h0 : Heap) (n0 : Nat) (SZ0 : n0 ≤ h0.size) (G0 : own_Pv Z h0 a0 (1 : Int32) [c0] .char) (Gp : own_Pv Z h0 a2 (1 : Int32) [(0 : Int32)] .byte) (J0 : own_J Z h0) (Gv : a0 ≠ a2) (hL0 : ¬ (255 : Int32) < c0) (Gn : n0 ≤ a2) :
    MetFree l y24 (head1 (Jvm.Cond.code y24 Gj 7 (some .int) :: ws) Qc2L1) (fun a U => a = #[(.ref a0), (.int 0), (.ref a2), (.int 0), (.int 1)] ∧ Z.Warmed39 U.vm ∧ U.heap = h0) (fun _ _ _ _ _ => True) (fun _ U o U' => ∃ v L, o = .returned v ∧ own_Q (Rc2L1 (fc2L1_0 c0)) (Kc2L1 Z c0 a0 a2 h0 n0 (fc2L1_0 c0)) v U'.heap L ∧ FrameEnd U o U' L Qc2L1.cells Qc2L1.slots) := by
  refine MetFree.of_bodySF (plainFor_of_name own_pn4) hisR ?_
  intro p e s m args below meth c s₁ Bd hml0 hP hK
  obtain ⟨rfl, hZ, hh⟩ := hP
  have hml : c.maxLocals = 7 := hml0
  have e0 : s₁.heap = h0 := by rw [← hh, Bd.state]; rfl
  exact own_pre (fun t k => castTop (ef_c2L1 m a0 a2) k) (gc2L1_0 hw c0 a0 a2 Gv hL0 Bd hml hZ Gn s₁ (Stand.of_body Bd) e0 SZ0 (Fr.nil n0) (Keep.refl _ _) G0 Gp J0)
abbrev QcpL1 : Room := { frames := 3, cells := 2, slots := 3, locals := 64 }
theorem own_pd14 : parseMethodDescriptor "([CI[BII)I" = some ⟨[(.array .char), .int, (.array .byte), .int, .int], some .int⟩ := by decide +kernel
/-! body 6, cpL1 -/
theorem d6_0 : De Gi 0 (.iload_n 2) 1 := by decide +kernel
theorem d6_1 : De Gi 1 (.newarray .byte) 2 := by decide +kernel
theorem d6_3 : De Gi 3 (.astore_n 3) 1 := by decide +kernel
theorem d6_4 : De Gi 4 (.aload_n 0) 1 := by decide +kernel
theorem d6_5 : De Gi 5 (.iload_n 1) 1 := by decide +kernel
theorem d6_6 : De Gi 6 (.aload_n 3) 1 := by decide +kernel
theorem d6_7 : De Gi 7 (.iconst 0) 1 := by decide +kernel
theorem d6_8 : De Gi 8 (.iload_n 2) 1 := by decide +kernel
theorem d6_9 : De Gi 9 (.invokestatic 115) 3 := by decide +kernel
theorem d6_12 : De Gi 12 (.istore 4) 2 := by decide +kernel
theorem d6_14 : De Gi 14 (.iload 4) 2 := by decide +kernel
theorem d6_16 : De Gi 16 (.iload_n 2) 1 := by decide +kernel
theorem d6_17 : De Gi 17 (.if_icmp .eq 40) 3 := by decide +kernel
theorem d6_20 : De Gi 20 (.aload_n 0) 1 := by decide +kernel
theorem d6_21 : De Gi 21 (.iload_n 1) 1 := by decide +kernel
theorem d6_22 : De Gi 22 (.iload_n 2) 1 := by decide +kernel
theorem d6_23 : De Gi 23 (.invokestatic 119) 3 := by decide +kernel
theorem d6_26 : De Gi 26 (.astore 5) 2 := by decide +kernel
theorem d6_28 : De Gi 28 (.aload 5) 2 := by decide +kernel
theorem d6_30 : De Gi 30 (.iload 4) 2 := by decide +kernel
theorem d6_32 : De Gi 32 (.invokestatic 71) 3 := by decide +kernel
theorem d6_35 : De Gi 35 (.sipush 255) 3 := by decide +kernel
theorem d6_38 : De Gi 38 (.if_icmp .gt 16) 3 := by decide +kernel
theorem d6_54 : De Gi 54 (.aload 5) 2 := by decide +kernel
theorem d6_56 : De Gi 56 (.areturn) 1 := by decide +kernel
theorem d6_57 : De Gi 57 (.aload_n 3) 1 := by decide +kernel
theorem d6_58 : De Gi 58 (.areturn) 1 := by decide +kernel
abbrev y25 : MethodName := ⟨cU, "compress", "([CII)[B"⟩
def RcpL1 (t : Unit) : Option Value := none
def KcpL1 (Z : State) (c0 : Int32) (a0 : Addr) (h0 : Heap) (n0 : Nat) (t : Unit) (h : Heap) (L : List Loc) (rb : Addr) : Prop := Fr n0 L ∧ Keep h0 h [] ∧ h0.size ≤ rb ∧ own_Pv Z h rb (1 : Int32) [(own_by c0)] .byte ∧ own_J Z h
def fcpL1_0 (c0 : Int32) : Unit := ()
set_option maxRecDepth 65536 in
set_option maxHeartbeats 40000000 in
theorem gcpL1_0 (hw : HW aw Z) {h0 : Heap} {n0 : Nat} (c0 : Int32) (a0 : Addr) (hL0 : ¬ (255 : Int32) < c0)
    (Bd : BodyLoose p l y25 (head1 (Jvm.Cond.code y25 Gi 6 (some (.array .byte)) :: ws) QcpL1) Gi 6 (some (.array .byte)) e s m #[(.ref a0), (.int 0), (.int 1)] below meth c s₁) (hml : c.maxLocals = 6) (hZ : Z.Warmed39 s.vm) (T0 : State) {locs : List Loc} (X0 : Stand p l e QcpL1 s m #[(.ref a0), (.int 0), (.int 1)] below meth c T0 locs 0 0) (e0 : T0.heap = h0) (SZ0 : n0 ≤ h0.size) (NF0 : Fr n0 locs) (KP0 : Keep h0 h0 []) (G0 : own_Pv Z h0 a0 (1 : Int32) [c0] .char) (J0 : own_J Z h0) :
    own_GoE p e below s QcpL1.cells QcpL1.slots (KcpL1 Z c0 a0 h0 n0 (fcpL1_0 c0)) (T0.setTop (mkF m 0 #[rv a0, iv 0, iv 1, uu, uu, uu] [])) := by
  have hx := Bd.exec
  have hby := Bd.bytes
  have hown : s.vm.findClass cU = some m.cls := findClass_of_methodNamed Bd.named
  have hnm := (name_of_methodNamed Bd.named Bd.method).1
  unfold fcpL1_0
  refine opE T0 (mkF m 1 #[rv a0, iv 0, iv 1, uu, uu, uu] [(.int 1)]) (fun _ k => XS.iloadN X0.here hx rfl (hb hby d6_0) rfl k) ?_
  obtain ⟨T1, h1, k1, X1, e1, E1, A1, st'⟩ := newP X0 hx hZ (ow hw 16 rfl) e0 (g := (mkF m 1 #[rv a0, iv 0, iv 1, uu, uu, uu] [(.int 1)])) rfl (hb hby d6_1) rfl (by decide) (cap := 1) (by decide) (by decide) (by decide) (by decide)
  obtain ⟨b1, g1⟩ : ∃ z, z = h0.size := ⟨_, rfl⟩
  rw [← g1] at A1 st'
  have Gu : n0 ≤ b1 := Nat.le_trans SZ0 (Nat.le_of_eq g1.symm)
  have Go : a0 ≠ b1 := Nat.ne_of_lt (Nat.lt_of_lt_of_le G0.lt (Nat.le_of_eq g1.symm))
  have Gr : h0.size ≤ b1 := Nat.le_trans KP0.1 (Nat.le_of_eq g1.symm)
  have KP1 := KP0.ext E1
  have SZ1 : n0 ≤ h1.size := Nat.le_trans SZ0 E1.1
  have f2 := G0.ext E1
  have f3 := own_J.ext J0 E1
  have f4 : own_Pv Z h1 b1 (1 : Int32) [(0 : Int32)] .byte := ⟨_, (Arv.new A1 (by decide)).pad (pad_rep [] (.int 0) 1)⟩
  refine opE T1 (mkF m 9 #[rv a0, iv 0, iv 1, rv b1, uu, uu] [(.int 1), (.int 0), (.ref b1), (.int 0), (.ref a0)]) (fun _ k => st' _ (XS.astoreN X1.here hx rfl (hb hby d6_3) rfl rfl (l' := #[rv a0, iv 0, iv 1, rv b1, uu, uu]) rfl (XS.aloadN X1.here hx rfl (hb hby d6_4) rfl rfl (XS.iloadN X1.here hx rfl (hb hby d6_5) rfl (XS.aloadN X1.here hx rfl (hb hby d6_6) rfl rfl (XS.iconst X1.here hx rfl (hb hby d6_7) (XS.iloadN X1.here hx rfl (hb hby d6_8) rfl k))))))) ?_
  obtain ⟨_, _, ⟨T5, L5, k5, n5⟩, -, X5', ⟨Lc5, hQ5, l5, y5, z5⟩, st'⟩ := Jvm.LawKit.callS X1 hx (y := y24) hown (mvT hZ (ow hw 37 rfl)) (mvT hZ (ow hw 38 rfl)) (mvT hZ (ow hw 35 rfl)) (mvT hZ (ow hw 39 rfl)) (by decide) (backOf (W := 0) (rmc2L1 l Z aw hw [] c0 a0 b1 h1 n0 SZ1 f2 f4 f3 Go hL0 Gu) hZ (ow hw 39 rfl) (ow hw 35 rfl) (by decide) (by decide)) (g := (mkF m 9 #[rv a0, iv 0, iv 1, rv b1, uu, uu] [(.int 1), (.int 0), (.ref b1), (.int 0), (.ref a0)])) rfl (by rw [hml]; rfl) (argsL := [(.ref a0), (.int 0), (.ref b1), (.int 0), (.int 1)]) (rest := []) (lenOf own_pd14 rfl) rfl (by show 2 * 0 + _ ≤ _; exact Nat.le_of_eq rfl) (hb hby d6_9) (fun _ _ => ⟨rfl, e1, (by decide : 1 + 0 ≤ _), (by decide : 1 + 0 ≤ _)⟩)
  dsimp only [Pt.U, Pt.locs, Pt.cells, Pt.slots] at X5' l5 y5 z5 st' hQ5
  subst l5 y5 z5
  obtain ⟨rfl, NFq5, KPq5, p5_0, p5_1⟩ := hQ5
  have X5 : Stand p l e QcpL1 s m #[(.ref a0), (.int 0), (.int 1)] below meth c T5 _ 1 1 := X5'
  have NF5 := Fr.app NF0 NFq5
  have SZ5 : n0 ≤ T5.heap.size := Nat.le_trans SZ1 KPq5.1
  have KP5 : Keep h0 T5.heap [] := KP1.trans KPq5 (allS (Or.inr Gr) all0)
  have f6 := f2.keep KPq5 (ninS Go nin0)
  refine opE T5 (mkF m 17 #[rv a0, iv 0, iv 1, rv b1, iv 1, uu] [(.int 1), (.int 1)]) (fun _ k => st' _ (XS.istore X5.here hx rfl (hb hby d6_12) rfl (l' := #[rv a0, iv 0, iv 1, rv b1, iv 1, uu]) rfl (XS.iload X5.here hx rfl (hb hby d6_14) rfl (XS.iloadN X5.here hx rfl (hb hby d6_16) rfl k)))) ?_
  have hd7 : (1 : Int32) = (1 : Int32) := by decide
  refine opE T5 (mkF m 58 #[rv a0, iv 0, iv 1, rv b1, iv 1, uu] [(.ref b1)]) (fun _ k => XS.icmpYes X5.here hx rfl (pc0 := 17) (pc' := 57) rfl (hb hby d6_17) rfl (teq hd7).1 (by decide) (by decide) (XS.aloadN X5.here hx rfl (hb hby d6_57) rfl rfl k)) ?_
  exact own_retE (b := b1) X5 hx Bd.notSynchronized Bd.returns rfl (hb hby d6_58) ⟨NF5, KP5, Gr, p5_0, p5_1⟩ (by decide) (by decide)
theorem ef_cpL1 (m : MethodId) (a0 : Addr) : entryFrame m #[(.ref a0), (.int 0), (.int 1)] 6 = mkF m 0 #[rv a0, iv 0, iv 1, uu, uu, uu] [] := by first | (simp [entryFrame, mkF, argsToLocals, Value.category]; done) | rfl
set_option maxRecDepth 65536 in
set_option maxHeartbeats 40000000 in
theorem rmcpL1 (l : Launch) (Z : State) (aw : Array Value) (hw : HW aw Z) (ws : List Jvm.Cond) (c0 : Int32) (a0 : Addr) (h0 : Heap) (n0 : Nat) (SZ0 : n0 ≤ h0.size) (G0 : own_Pv Z h0 a0 (1 : Int32) [c0] .char) (J0 : own_J Z h0) (hL0 : ¬ (255 : Int32) < c0) :
    MetFree l y25 (head1 (Jvm.Cond.code y25 Gi 6 (some (.array .byte)) :: ws) QcpL1) (fun a U => a = #[(.ref a0), (.int 0), (.int 1)] ∧ Z.Warmed39 U.vm ∧ U.heap = h0) (fun _ _ _ _ _ => True) (fun _ U o U' => ∃ v L, o = .returned v ∧ own_QE (KcpL1 Z c0 a0 h0 n0 (fcpL1_0 c0)) v U'.heap L ∧ FrameEnd U o U' L QcpL1.cells QcpL1.slots) := by
  refine MetFree.of_bodySF (plainFor_of_name own_pn4) hisR ?_
  intro p e s m args below meth c s₁ Bd hml0 hP hK
  obtain ⟨rfl, hZ, hh⟩ := hP
  have hml : c.maxLocals = 6 := hml0
  have e0 : s₁.heap = h0 := by rw [← hh, Bd.state]; rfl
  exact own_preE (fun t k => castTop (ef_cpL1 m a0) k) (gcpL1_0 hw c0 a0 hL0 Bd hml hZ s₁ (Stand.of_body Bd) e0 SZ0 (Fr.nil n0) (Keep.refl _ _) G0 J0)
abbrev Qc2U10 : Room := { frames := 0, cells := 0, slots := 0, locals := 0 }
/-! body 7, c2U10 -/
def Rc2U10 (t : Int32) : Option Value := some (.int t)
def Kc2U10 (Z : State) (c0 : Int32) (a0 a2 : Addr) (h0 : Heap) (n0 : Nat) (t : Int32) (h : Heap) (L : List Loc) : Prop := Fr n0 L ∧ Keep h0 h [a2] ∧ own_J Z h
def fc2U10_0 (c0 : Int32) : Int32 := (0 : Int32)
set_option maxRecDepth 65536 in
set_option maxHeartbeats 40000000 in
theorem gc2U10_0 (hw : HW aw Z) {h0 : Heap} {n0 : Nat} (c0 : Int32) (a0 a2 : Addr) (hB : (255 : Int32) < c0)
    (Bd : BodyLoose p l y24 (head1 (Jvm.Cond.code y24 Gj 7 (some .int) :: ws) Qc2U10) Gj 7 (some .int) e s m #[(.ref a0), (.int 0), (.ref a2), (.int 0), (.int 1)] below meth c s₁) (hml : c.maxLocals = 7) (hZ : Z.Warmed39 s.vm) (Gn : n0 ≤ a2) (T0 : State) {locs : List Loc} (X0 : Stand p l e Qc2U10 s m #[(.ref a0), (.int 0), (.ref a2), (.int 0), (.int 1)] below meth c T0 locs 0 0) (e0 : T0.heap = h0) (SZ0 : n0 ≤ h0.size) (NF0 : Fr n0 locs) (KP0 : Keep h0 h0 [a2]) (G0 : own_Pv Z h0 a0 (1 : Int32) [c0] .char) (Gp : own_Pv Z h0 a2 (1 : Int32) [(0 : Int32)] .byte) (J0 : own_J Z h0) :
    own_Go p e below s Qc2U10.cells Qc2U10.slots (Rc2U10 (fc2U10_0 c0)) (Kc2U10 Z c0 a0 a2 h0 n0 (fc2U10_0 c0)) (T0.setTop (mkF m 0 #[rv a0, iv 0, rv a2, iv 0, iv 1, uu, uu] [])) := by
  have hx := Bd.exec
  have hby := Bd.bytes
  have hown : s.vm.findClass cU = some m.cls := findClass_of_methodNamed Bd.named
  have hnm := (name_of_methodNamed Bd.named Bd.method).1
  unfold fc2U10_0
  refine op T0 (mkF m 7 #[rv a0, iv 0, rv a2, iv 0, iv 1, iv 0, uu] [(.int 1), (.int 0)]) (fun _ k => XS.iconst X0.here hx rfl (hb hby d7_0) (XS.istore X0.here hx rfl (hb hby d7_1) rfl (l' := #[rv a0, iv 0, rv a2, iv 0, iv 1, iv 0, uu]) rfl (XS.iload X0.here hx rfl (hb hby d7_3) rfl (XS.iload X0.here hx rfl (hb hby d7_5) rfl k)))) ?_
  have hd1 : (0 : Int32) < (1 : Int32) := by decide
  refine op T0 (mkF m 12 #[rv a0, iv 0, rv a2, iv 0, iv 1, iv 0, uu] [(.int 0), (.ref a0)]) (fun _ k => XS.icmpNo X0.here hx rfl (hb hby d7_7) rfl (tlt hd1).2.1 (XS.aloadN X0.here hx rfl (hb hby d7_10) rfl rfl (XS.iloadN X0.here hx rfl (hb hby d7_11) rfl k))) ?_
  obtain ⟨k2, cl2, Ar2, q2, S2, N2, H2, G2⟩ := id G0
  have hin2 : ¬ ((0 : Int32) < 0 ∨ cl2.slots.size ≤ ((0 : Int32)).toNatClampNeg) := inb_of S2 ⟨by decide, by decide⟩
  refine op T0 (mkF m 13 #[rv a0, iv 0, rv a2, iv 0, iv 1, iv 0, uu] [(.int c0)]) (fun t k => X0.caload hx (j := (0 : Int32)) (v := (.int c0)) (by rw [e0]; exact Ar2.1) (State.isArrayOf_alike hZ.alike Ar2.2.1) Ar2.2.2 hin2 (H2.at hin2 rfl) (g := (mkF m 12 #[rv a0, iv 0, rv a2, iv 0, iv 1, iv 0, uu] [(.int 0), (.ref a0)])) rfl rfl (hb hby d7_12) t k) ?_
  refine op T0 (mkF m 20 #[rv a0, iv 0, rv a2, iv 0, iv 1, iv 0, iv c0] [(.int 255), (.int c0)]) (fun _ k => XS.istore X0.here hx rfl (hb hby d7_13) rfl (l' := #[rv a0, iv 0, rv a2, iv 0, iv 1, iv 0, iv c0]) rfl (XS.iload X0.here hx rfl (hb hby d7_15) rfl (XS.sipush X0.here hx rfl (hb hby d7_17) k))) ?_
  have hc20 : (255 : Int32) < c0 := hB
  refine op T0 (mkF m 25 #[rv a0, iv 0, rv a2, iv 0, iv 1, iv 0, iv c0] [(.int 0)]) (fun _ k => XS.icmpNo X0.here hx rfl (hb hby d7_20) rfl (tlt hc20).2.2.2 (XS.iload X0.here hx rfl (hb hby d7_23) rfl k)) ?_
  exact own_ret (w := (.int 0)) X0 hx Bd.notSynchronized Bd.returns rfl (Or.inl ⟨rfl, by simp, _, rfl⟩) (hb hby d7_25) (by rw [e0]; exact ⟨NF0, KP0, J0⟩) (by decide) (by decide)
theorem ef_c2U10 (m : MethodId) (a0 a2 : Addr) : entryFrame m #[(.ref a0), (.int 0), (.ref a2), (.int 0), (.int 1)] 7 = mkF m 0 #[rv a0, iv 0, rv a2, iv 0, iv 1, uu, uu] [] := by first | (simp [entryFrame, mkF, argsToLocals, Value.category]; done) | rfl
set_option maxRecDepth 65536 in
set_option maxHeartbeats 40000000 in
theorem rmc2U10 (l : Launch) (Z : State) (aw : Array Value) (hw : HW aw Z) (ws : List Jvm.Cond) (c0 : Int32) (a0 a2 : Addr) (h0 : Heap) (n0 : Nat) (SZ0 : n0 ≤ h0.size) (G0 : own_Pv Z h0 a0 (1 : Int32) [c0] .char) (Gp : own_Pv Z h0 a2 (1 : Int32) [(0 : Int32)] .byte) (J0 : own_J Z h0) (hB : (255 : Int32) < c0) (Gn : n0 ≤ a2) :
    MetFree l y24 (head1 (Jvm.Cond.code y24 Gj 7 (some .int) :: ws) Qc2U10) (fun a U => a = #[(.ref a0), (.int 0), (.ref a2), (.int 0), (.int 1)] ∧ Z.Warmed39 U.vm ∧ U.heap = h0) (fun _ _ _ _ _ => True) (fun _ U o U' => ∃ v L, o = .returned v ∧ own_Q (Rc2U10 (fc2U10_0 c0)) (Kc2U10 Z c0 a0 a2 h0 n0 (fc2U10_0 c0)) v U'.heap L ∧ FrameEnd U o U' L Qc2U10.cells Qc2U10.slots) := by
  refine MetFree.of_bodySF (plainFor_of_name own_pn4) hisR ?_
  intro p e s m args below meth c s₁ Bd hml0 hP hK
  obtain ⟨rfl, hZ, hh⟩ := hP
  have hml : c.maxLocals = 7 := hml0
  have e0 : s₁.heap = h0 := by rw [← hh, Bd.state]; rfl
  exact own_pre (fun t k => castTop (ef_c2U10 m a0 a2) k) (gc2U10_0 hw c0 a0 a2 hB Bd hml hZ Gn s₁ (Stand.of_body Bd) e0 SZ0 (Fr.nil n0) (Keep.refl _ _) G0 Gp J0)
abbrev QcpU10 : Room := { frames := 3, cells := 2, slots := 3, locals := 64 }
theorem own_pd15 : parseMethodDescriptor "([CII)[B" = some ⟨[(.array .char), .int, .int], some (.array .byte)⟩ := by decide +kernel
/-! body 6, cpU10 -/
def RcpU10 (t : Unit) : Option Value := none
def KcpU10 (Z : State) (c0 : Int32) (a0 : Addr) (h0 : Heap) (n0 : Nat) (t : Unit) (h : Heap) (L : List Loc) (rb : Addr) : Prop := Fr n0 L ∧ Keep h0 h [] ∧ h0.size ≤ rb ∧ own_Pv Z h rb (2 : Int32) [(own_lo c0), (own_hi c0)] .byte ∧ own_J Z h
def fcpU10_0 (c0 : Int32) : Unit := ()
set_option maxRecDepth 65536 in
set_option maxHeartbeats 40000000 in
theorem gcpU10_0 (hw : HW aw Z) {h0 : Heap} {n0 : Nat} (c0 : Int32) (a0 : Addr) (hB : (255 : Int32) < c0) (hC : own_ch c0)
    (Bd : BodyLoose p l y25 (head1 (Jvm.Cond.code y25 Gi 6 (some (.array .byte)) :: ws) QcpU10) Gi 6 (some (.array .byte)) e s m #[(.ref a0), (.int 0), (.int 1)] below meth c s₁) (hml : c.maxLocals = 6) (hZ : Z.Warmed39 s.vm) (T0 : State) {locs : List Loc} (X0 : Stand p l e QcpU10 s m #[(.ref a0), (.int 0), (.int 1)] below meth c T0 locs 0 0) (e0 : T0.heap = h0) (SZ0 : n0 ≤ h0.size) (NF0 : Fr n0 locs) (KP0 : Keep h0 h0 []) (G0 : own_Pv Z h0 a0 (1 : Int32) [c0] .char) (J0 : own_J Z h0) :
    own_GoE p e below s QcpU10.cells QcpU10.slots (KcpU10 Z c0 a0 h0 n0 (fcpU10_0 c0)) (T0.setTop (mkF m 0 #[rv a0, iv 0, iv 1, uu, uu, uu] [])) := by
  have hx := Bd.exec
  have hby := Bd.bytes
  have hown : s.vm.findClass cU = some m.cls := findClass_of_methodNamed Bd.named
  have hnm := (name_of_methodNamed Bd.named Bd.method).1
  unfold fcpU10_0
  refine opE T0 (mkF m 1 #[rv a0, iv 0, iv 1, uu, uu, uu] [(.int 1)]) (fun _ k => XS.iloadN X0.here hx rfl (hb hby d6_0) rfl k) ?_
  obtain ⟨T1, h1, k1, X1, e1, E1, A1, st'⟩ := newP X0 hx hZ (ow hw 16 rfl) e0 (g := (mkF m 1 #[rv a0, iv 0, iv 1, uu, uu, uu] [(.int 1)])) rfl (hb hby d6_1) rfl (by decide) (cap := 1) (by decide) (by decide) (by decide) (by decide)
  obtain ⟨b1, g1⟩ : ∃ z, z = h0.size := ⟨_, rfl⟩
  rw [← g1] at A1 st'
  have Gu : n0 ≤ b1 := Nat.le_trans SZ0 (Nat.le_of_eq g1.symm)
  have Go : a0 ≠ b1 := Nat.ne_of_lt (Nat.lt_of_lt_of_le G0.lt (Nat.le_of_eq g1.symm))
  have Gr : h0.size ≤ b1 := Nat.le_trans KP0.1 (Nat.le_of_eq g1.symm)
  have KP1 := KP0.ext E1
  have SZ1 : n0 ≤ h1.size := Nat.le_trans SZ0 E1.1
  have f2 := G0.ext E1
  have f3 := own_J.ext J0 E1
  have f4 : own_Pv Z h1 b1 (1 : Int32) [(0 : Int32)] .byte := ⟨_, (Arv.new A1 (by decide)).pad (pad_rep [] (.int 0) 1)⟩
  refine opE T1 (mkF m 9 #[rv a0, iv 0, iv 1, rv b1, uu, uu] [(.int 1), (.int 0), (.ref b1), (.int 0), (.ref a0)]) (fun _ k => st' _ (XS.astoreN X1.here hx rfl (hb hby d6_3) rfl rfl (l' := #[rv a0, iv 0, iv 1, rv b1, uu, uu]) rfl (XS.aloadN X1.here hx rfl (hb hby d6_4) rfl rfl (XS.iloadN X1.here hx rfl (hb hby d6_5) rfl (XS.aloadN X1.here hx rfl (hb hby d6_6) rfl rfl (XS.iconst X1.here hx rfl (hb hby d6_7) (XS.iloadN X1.here hx rfl (hb hby d6_8) rfl k))))))) ?_
  obtain ⟨_, _, ⟨T5, L5, k5, n5⟩, -, X5', ⟨Lc5, hQ5, l5, y5, z5⟩, st'⟩ := Jvm.LawKit.callS X1 hx (y := y24) hown (mvT hZ (ow hw 37 rfl)) (mvT hZ (ow hw 38 rfl)) (mvT hZ (ow hw 35 rfl)) (mvT hZ (ow hw 39 rfl)) (by decide) (backOf (W := 0) (rmc2U10 l Z aw hw [] c0 a0 b1 h1 n0 SZ1 f2 f4 f3 hB Gu) hZ (ow hw 39 rfl) (ow hw 35 rfl) (by decide) (by decide)) (g := (mkF m 9 #[rv a0, iv 0, iv 1, rv b1, uu, uu] [(.int 1), (.int 0), (.ref b1), (.int 0), (.ref a0)])) rfl (by rw [hml]; rfl) (argsL := [(.ref a0), (.int 0), (.ref b1), (.int 0), (.int 1)]) (rest := []) (lenOf own_pd14 rfl) rfl (by show 2 * 0 + _ ≤ _; exact Nat.le_of_eq rfl) (hb hby d6_9) (fun _ _ => ⟨rfl, e1, (by decide : 1 + 0 ≤ _), (by decide : 1 + 0 ≤ _)⟩)
  dsimp only [Pt.U, Pt.locs, Pt.cells, Pt.slots] at X5' l5 y5 z5 st' hQ5
  subst l5 y5 z5
  obtain ⟨rfl, NFq5, KPq5, p5_0⟩ := hQ5
  have X5 : Stand p l e QcpU10 s m #[(.ref a0), (.int 0), (.int 1)] below meth c T5 _ 1 1 := X5'
  have NF5 := Fr.app NF0 NFq5
  have SZ5 : n0 ≤ T5.heap.size := Nat.le_trans SZ1 KPq5.1
  have KP5 : Keep h0 T5.heap [] := KP1.trans KPq5 (allS (Or.inr Gr) all0)
  have f6 := f2.keep KPq5 (ninS Go nin0)
  refine opE T5 (mkF m 17 #[rv a0, iv 0, iv 1, rv b1, iv 0, uu] [(.int 1), (.int 0)]) (fun _ k => st' _ (XS.istore X5.here hx rfl (hb hby d6_12) rfl (l' := #[rv a0, iv 0, iv 1, rv b1, iv 0, uu]) rfl (XS.iload X5.here hx rfl (hb hby d6_14) rfl (XS.iloadN X5.here hx rfl (hb hby d6_16) rfl k)))) ?_
  have hd7 : ¬ ((0 : Int32) = (1 : Int32)) := by decide
  refine opE T5 (mkF m 23 #[rv a0, iv 0, iv 1, rv b1, iv 0, uu] [(.int 1), (.int 0), (.ref a0)]) (fun _ k => XS.icmpNo X5.here hx rfl (hb hby d6_17) rfl (feq hd7).1 (XS.aloadN X5.here hx rfl (hb hby d6_20) rfl rfl (XS.iloadN X5.here hx rfl (hb hby d6_21) rfl (XS.iloadN X5.here hx rfl (hb hby d6_22) rfl k)))) ?_
  obtain ⟨_, _, ⟨T8, L8, k8, n8⟩, -, X8', ⟨Lc8, hQ8, l8, y8, z8⟩, st'⟩ := Jvm.LawKit.callS X5 hx (y := y23) hown (mvT hZ (ow hw 107 rfl)) (mvT hZ (ow hw 108 rfl)) (mvT hZ (ow hw 35 rfl)) (mvT hZ (ow hw 109 rfl)) (by decide) (backOf (W := 0) (rmtb1 l Z aw hw [] c0 a0 T5.heap n0 SZ5 f6 p5_0) hZ (ow hw 109 rfl) (ow hw 35 rfl) (by decide) (by decide)) (g := (mkF m 23 #[rv a0, iv 0, iv 1, rv b1, iv 0, uu] [(.int 1), (.int 0), (.ref a0)])) rfl (by rw [hml]; rfl) (argsL := [(.ref a0), (.int 0), (.int 1)]) (rest := []) (lenOf own_pd15 rfl) rfl (by show 2 * 0 + _ ≤ _; exact Nat.le_of_eq rfl) (hb hby d6_23) (fun _ _ => ⟨rfl, (rfl : T5.heap = T5.heap), (by decide : 1 + 1 ≤ _), (by decide : 1 + 2 ≤ _)⟩)
  dsimp only [Pt.U, Pt.locs, Pt.cells, Pt.slots] at X8' l8 y8 z8 st' hQ8
  subst l8 y8 z8
  obtain ⟨rfl, NFq8, KPq8, p8_0, p8_1⟩ := hQ8
  have X8 : Stand p l e QcpU10 s m #[(.ref a0), (.int 0), (.int 1)] below meth c T8 _ 2 3 := X8'
  have NF8 := Fr.app NF5 NFq8
  have SZ8 : n0 ≤ T8.heap.size := Nat.le_trans SZ5 KPq8.1
  have KP8 : Keep h0 T8.heap [] := KP5.trans KPq8 all0
  obtain ⟨b8, g8⟩ : ∃ z, z = T5.heap.size := ⟨_, rfl⟩
  simp only [Rtb1, ← g8] at st' p8_0
  have g_b8 : n0 ≤ b8 := Nat.le_trans SZ5 (Nat.le_of_eq g8.symm)
  have Hk : h0.size ≤ b8 := Nat.le_trans KP5.1 (Nat.le_of_eq g8.symm)
  have Hw : a0 ≠ b8 := Nat.ne_of_lt (Nat.lt_of_lt_of_le f6.lt (Nat.le_of_eq g8.symm))
  have f9 := f6.keep KPq8 nin0
  have f10 := own_J.keep p5_0 KPq8
  refine opE T8 (mkF m 32 #[rv a0, iv 0, iv 1, rv b1, iv 0, rv b8] [(.int 0), (.ref b8)]) (fun _ k => st' _ (XS.astore X8.here hx rfl (hb hby d6_26) rfl rfl (l' := #[rv a0, iv 0, iv 1, rv b1, iv 0, rv b8]) rfl (XS.aload X8.here hx rfl (hb hby d6_28) rfl rfl (XS.iload X8.here hx rfl (hb hby d6_30) rfl k)))) ?_
  obtain ⟨_, _, ⟨T11, L11, k11, n11⟩, -, X11', ⟨Lc11, hQ11, l11, y11, z11⟩, st'⟩ := Jvm.LawKit.callS X8 hx (y := y3) hown (mvT hZ (ow hw 123 rfl)) (mvT hZ (ow hw 124 rfl)) (mvT hZ (ow hw 35 rfl)) (mvT hZ (ow hw 125 rfl)) (by decide) (backOf (W := 0) (rmgc l Z aw hw [] (0 : Int32) (2 : Int32) (own_lo c0) (own_hi c0) b8 T8.heap n0 SZ8 (own_Pv.be p8_0 (by intro x hx; simp only [List.mem_cons, List.not_mem_nil, or_false] at hx; rcases hx with rfl | rfl <;> rfl)) p8_1 (by decide) (by decide) (by decide) (by decide)) hZ (ow hw 125 rfl) (ow hw 35 rfl) (by decide) (by decide)) (g := (mkF m 32 #[rv a0, iv 0, iv 1, rv b1, iv 0, rv b8] [(.int 0), (.ref b8)])) rfl (by rw [hml]; rfl) (argsL := [(.ref b8), (.int 0)]) (rest := []) (lenOf own_pd4 rfl) rfl (by show 2 * 0 + _ ≤ _; exact Nat.le_of_eq rfl) (hb hby d6_32) (fun _ _ => ⟨rfl, (rfl : T8.heap = T8.heap), (by decide : 2 + 0 ≤ _), (by decide : 3 + 0 ≤ _)⟩)
  dsimp only [Pt.U, Pt.locs, Pt.cells, Pt.slots] at X11' l11 y11 z11 st' hQ11
  subst l11 y11 z11
  obtain ⟨rfl, rfl, e11⟩ := hQ11
  have X11 : Stand p l e QcpU10 s m #[(.ref a0), (.int 0), (.int 1)] below meth c T11 _ 2 3 := own_locs X11'
  refine opE T11 (mkF m 38 #[rv a0, iv 0, iv 1, rv b1, iv 0, rv b8] [(.int 255), (.int (fgc_0 (0 : Int32) (2 : Int32) (own_lo c0) (own_hi c0)))]) (fun _ k => st' _ (XS.sipush X11.here hx rfl (hb hby d6_35) k)) ?_
  have hc38 : (255 : Int32) < (fgc_0 (0 : Int32) (2 : Int32) (own_lo c0) (own_hi c0)) := (by rw [own_gcE _ _ hC]; exact hB)
  refine opE T11 (mkF m 56 #[rv a0, iv 0, iv 1, rv b1, iv 0, rv b8] [(.ref b8)]) (fun _ k => XS.icmpYes X11.here hx rfl (pc0 := 38) (pc' := 54) rfl (hb hby d6_38) rfl (tlt hc38).2.2.1 (by decide) (by decide) (XS.aload X11.here hx rfl (hb hby d6_54) rfl rfl k)) ?_
  exact own_retE (b := b8) X11 hx Bd.notSynchronized Bd.returns rfl (hb hby d6_56) (by rw [e11]; exact ⟨NF8, KP8, Hk, p8_0, p8_1⟩) (by decide) (by decide)
theorem ef_cpU10 (m : MethodId) (a0 : Addr) : entryFrame m #[(.ref a0), (.int 0), (.int 1)] 6 = mkF m 0 #[rv a0, iv 0, iv 1, uu, uu, uu] [] := by first | (simp [entryFrame, mkF, argsToLocals, Value.category]; done) | rfl
set_option maxRecDepth 65536 in
set_option maxHeartbeats 40000000 in
theorem rmcpU10 (l : Launch) (Z : State) (aw : Array Value) (hw : HW aw Z) (ws : List Jvm.Cond) (c0 : Int32) (a0 : Addr) (h0 : Heap) (n0 : Nat) (SZ0 : n0 ≤ h0.size) (G0 : own_Pv Z h0 a0 (1 : Int32) [c0] .char) (J0 : own_J Z h0) (hB : (255 : Int32) < c0) (hC : own_ch c0) :
    MetFree l y25 (head1 (Jvm.Cond.code y25 Gi 6 (some (.array .byte)) :: ws) QcpU10) (fun a U => a = #[(.ref a0), (.int 0), (.int 1)] ∧ Z.Warmed39 U.vm ∧ U.heap = h0) (fun _ _ _ _ _ => True) (fun _ U o U' => ∃ v L, o = .returned v ∧ own_QE (KcpU10 Z c0 a0 h0 n0 (fcpU10_0 c0)) v U'.heap L ∧ FrameEnd U o U' L QcpU10.cells QcpU10.slots) := by
  refine MetFree.of_bodySF (plainFor_of_name own_pn4) hisR ?_
  intro p e s m args below meth c s₁ Bd hml0 hP hK
  obtain ⟨rfl, hZ, hh⟩ := hP
  have hml : c.maxLocals = 6 := hml0
  have e0 : s₁.heap = h0 := by rw [← hh, Bd.state]; rfl
  exact own_preE (fun t k => castTop (ef_cpU10 m a0) k) (gcpU10_0 hw c0 a0 hB hC Bd hml hZ s₁ (Stand.of_body Bd) e0 SZ0 (Fr.nil n0) (Keep.refl _ _) G0 J0)
abbrev Qnl2 : Room := { frames := 0, cells := 0, slots := 0, locals := 0 }
/-! body 26, nl2 -/
def Rnl2 (t : Int32) : Option Value := some (.int t)
def Knl2 (Z : State)   (h0 : Heap) (n0 : Nat) (t : Int32) (h : Heap) (L : List Loc) : Prop := own_K0 h0 h L
def fnl2_0  : Int32 := (4 : Int32)
set_option maxRecDepth 65536 in
set_option maxHeartbeats 40000000 in
theorem gnl2_0 (hw : HW aw Z) {h0 : Heap} {n0 : Nat}  
    (Bd : BodyLoose p l y20 (head1 (Jvm.Cond.code y20 H0 1 (some .int) :: ws) Qnl2) H0 1 (some .int) e s m #[(.int 2)] below meth c s₁) (hml : c.maxLocals = 1) (hZ : Z.Warmed39 s.vm) (T0 : State) {locs : List Loc} (X0 : Stand p l e Qnl2 s m #[(.int 2)] below meth c T0 locs 0 0) (e0 : T0.heap = h0) (SZ0 : n0 ≤ h0.size) (NF0 : locs = []) :
    own_Go p e below s Qnl2.cells Qnl2.slots (Rnl2 (fnl2_0 )) (Knl2 Z   h0 n0 (fnl2_0 )) (T0.setTop (mkF m 0 #[iv 2] [])) := by
  have hx := Bd.exec
  have hby := Bd.bytes
  have hown : s.vm.findClass cU = some m.cls := findClass_of_methodNamed Bd.named
  have hnm := (name_of_methodNamed Bd.named Bd.method).1
  unfold fnl2_0
  refine op T0 (mkF m 1 #[iv 2] [(.int 2)]) (fun _ k => XS.iloadN X0.here hx rfl (hb hby d26_0) rfl k) ?_
  have hc1 : ¬ ((2 : Int32) < (0 : Int32)) := (by decide)
  refine op T0 (mkF m 13 #[iv 2] [(.int 2)]) (fun _ k => XS.ifYes X0.here hx rfl (pc0 := 1) (pc' := 12) rfl (hb hby d26_1) rfl ((if0 _ _).trans (flt hc1).2.1) (by decide) (by decide) (XS.iloadN X0.here hx rfl (hb hby d26_12) rfl k)) ?_
  refine op T0 (mkF m 15 #[iv 2] [(.int 1073741823), (.int 2)]) (fun _ k => X0.ldcInt hx hown (mvT hZ (ow hw 116 rfl)) (g := (mkF m 13 #[iv 2] [(.int 2)])) rfl (hb hby d26_13) _ k) ?_
  have hc15 : (2 : Int32) < (1073741823 : Int32) := (by decide)
  refine op T0 (mkF m 58 #[iv 2] [(.int 4)]) (fun _ k => XS.icmpYes X0.here hx rfl (pc0 := 15) (pc' := 55) rfl (hb hby d26_15) rfl (tlt hc15).1 (by decide) (by decide) (XS.iloadN X0.here hx rfl (hb hby d26_55) rfl (XS.iconst X0.here hx rfl (hb hby d26_56) (XS.ishl X0.here hx rfl (hb hby d26_57) rfl k)))) ?_
  exact own_ret (w := (.int 4)) X0 hx Bd.notSynchronized Bd.returns rfl (Or.inl ⟨rfl, by simp, _, rfl⟩) (hb hby d26_58) (by rw [e0]; exact ⟨NF0, rfl⟩) (by decide) (by decide)
theorem ef_nl2 (m : MethodId)  : entryFrame m #[(.int 2)] 1 = mkF m 0 #[iv 2] [] := by first | (simp [entryFrame, mkF, argsToLocals, Value.category]; done) | rfl
set_option maxRecDepth 65536 in
set_option maxHeartbeats 40000000 in
theorem rmnl2 (l : Launch) (Z : State) (aw : Array Value) (hw : HW aw Z) (ws : List Jvm.Cond)   (h0 : Heap) (n0 : Nat) (SZ0 : n0 ≤ h0.size) :
    MetFree l y20 (head1 (Jvm.Cond.code y20 H0 1 (some .int) :: ws) Qnl2) (fun a U => a = #[(.int 2)] ∧ Z.Warmed39 U.vm ∧ U.heap = h0) (fun _ _ _ _ _ => True) (fun _ U o U' => ∃ v L, o = .returned v ∧ own_Q (Rnl2 (fnl2_0 )) (Knl2 Z   h0 n0 (fnl2_0 )) v U'.heap L ∧ FrameEnd U o U' L Qnl2.cells Qnl2.slots) := by
  refine MetFree.of_bodySF (plainFor_of_name own_pn4) hisR ?_
  intro p e s m args below meth c s₁ Bd hml0 hP hK
  obtain ⟨rfl, hZ, hh⟩ := hP
  have hml : c.maxLocals = 1 := hml0
  have e0 : s₁.heap = h0 := by rw [← hh, Bd.state]; rfl
  exact own_pre (fun t k => castTop (ef_nl2 m ) k) (gnl2_0 hw   Bd hml hZ s₁ (Stand.of_body Bd) e0 SZ0 rfl)
abbrev Qnf2 : Room := { frames := 1, cells := 1, slots := 4, locals := 20 }
/-! body 25, nf2 -/
def Rnf2 (h0 : Heap) (t : Unit) : Option Value := some (.ref h0.size)
def Knf2 (Z : State)   (h0 : Heap) (n0 : Nat) (t : Unit) (h : Heap) (L : List Loc) : Prop := Fr n0 L ∧ Keep h0 h [] ∧ own_Pv Z h h0.size (4 : Int32) [(0 : Int32), (0 : Int32), (0 : Int32), (0 : Int32)] .byte
def fnf2_0  : Unit := ()
set_option maxRecDepth 65536 in
set_option maxHeartbeats 40000000 in
theorem gnf2_0 (hw : HW aw Z) {h0 : Heap} {n0 : Nat}  
    (Bd : BodyLoose p l y21 (head1 (Jvm.Cond.code y21 Hj 1 (some (.array .byte)) :: ws) Qnf2) Hj 1 (some (.array .byte)) e s m #[(.int 2)] below meth c s₁) (hml : c.maxLocals = 1) (hZ : Z.Warmed39 s.vm) (T0 : State) {locs : List Loc} (X0 : Stand p l e Qnf2 s m #[(.int 2)] below meth c T0 locs 0 0) (e0 : T0.heap = h0) (SZ0 : n0 ≤ h0.size) (NF0 : Fr n0 locs) (KP0 : Keep h0 h0 []) :
    own_Go p e below s Qnf2.cells Qnf2.slots (Rnf2 h0 (fnf2_0 )) (Knf2 Z   h0 n0 (fnf2_0 )) (T0.setTop (mkF m 0 #[iv 2] [])) := by
  have hx := Bd.exec
  have hby := Bd.bytes
  have hown : s.vm.findClass cU = some m.cls := findClass_of_methodNamed Bd.named
  have hnm := (name_of_methodNamed Bd.named Bd.method).1
  unfold fnf2_0
  refine op T0 (mkF m 1 #[iv 2] [(.int 2)]) (fun _ k => XS.iloadN X0.here hx rfl (hb hby d25_0) rfl k) ?_
  obtain ⟨_, _, ⟨T1, L1, k1, n1⟩, -, X1', ⟨Lc1, hQ1, l1, y1, z1⟩, st'⟩ := Jvm.LawKit.callS X0 hx (y := y20) hown (mvT hZ (ow hw 113 rfl)) (mvT hZ (ow hw 114 rfl)) (mvT hZ (ow hw 35 rfl)) (mvT hZ (ow hw 115 rfl)) (by decide) (backOf (W := 0) (rmnl2 l Z aw hw []   h0 n0 SZ0 ) hZ (ow hw 115 rfl) (ow hw 35 rfl) (by decide) (by decide)) (g := (mkF m 1 #[iv 2] [(.int 2)])) rfl (by rw [hml]; rfl) (argsL := [(.int 2)]) (rest := []) (lenOf own_pd11 rfl) rfl (by show 2 * 0 + _ ≤ _; exact Nat.le_of_eq rfl) (hb hby d25_1) (fun _ _ => ⟨rfl, e0, (by decide : 0 + 0 ≤ _), (by decide : 0 + 0 ≤ _)⟩)
  dsimp only [Pt.U, Pt.locs, Pt.cells, Pt.slots] at X1' l1 y1 z1 st' hQ1
  subst l1 y1 z1
  obtain ⟨rfl, rfl, e1⟩ := hQ1
  have X1 : Stand p l e Qnf2 s m #[(.int 2)] below meth c T1 _ 0 0 := own_locs X1'
  refine op T1 (mkF m 4 #[iv 2] [(.int 4)]) (fun _ k => st' _ k) ?_
  obtain ⟨T2, h2, k2, X2, e2, E2, A2, st'⟩ := newP X1 hx hZ (ow hw 16 rfl) e1 (g := (mkF m 4 #[iv 2] [(.int 4)])) rfl (hb hby d25_4) rfl (by decide) (cap := 4) (by decide) (by decide) (by decide) (by decide)
  obtain ⟨b2, g2⟩ : ∃ z, z = h0.size := ⟨_, rfl⟩
  rw [← g2] at A2 st'
  have g_b2 : n0 ≤ b2 := Nat.le_trans SZ0 (Nat.le_of_eq g2.symm)
  have sz_b2 : h0.size ≤ b2 := Nat.le_trans KP0.1 (Nat.le_of_eq g2.symm)
  have KP2 := KP0.ext E2
  have SZ2 : n0 ≤ h2.size := Nat.le_trans SZ0 E2.1
  have f3 : own_Pv Z h2 b2 (4 : Int32) [(0 : Int32), (0 : Int32), (0 : Int32), (0 : Int32)] .byte := ⟨_, (Arv.new A2 (by decide)).pad (pad_rep [] (.int 0) 4)⟩
  refine op T2 (mkF m 6 #[iv 2] [(.ref b2)]) (fun _ k => st' _ k) ?_
  subst g2
  exact own_ret (w := (.ref h0.size)) X2 hx Bd.notSynchronized Bd.returns rfl (Or.inr (Or.inr ⟨rfl, rfl, rfl⟩)) (hb hby d25_6) (by rw [e2]; exact ⟨NF0, KP2, f3⟩) (by decide) (by decide)
theorem ef_nf2 (m : MethodId)  : entryFrame m #[(.int 2)] 1 = mkF m 0 #[iv 2] [] := by first | (simp [entryFrame, mkF, argsToLocals, Value.category]; done) | rfl
set_option maxRecDepth 65536 in
set_option maxHeartbeats 40000000 in
theorem rmnf2 (l : Launch) (Z : State) (aw : Array Value) (hw : HW aw Z) (ws : List Jvm.Cond)   (h0 : Heap) (n0 : Nat) (SZ0 : n0 ≤ h0.size) :
    MetFree l y21 (head1 (Jvm.Cond.code y21 Hj 1 (some (.array .byte)) :: ws) Qnf2) (fun a U => a = #[(.int 2)] ∧ Z.Warmed39 U.vm ∧ U.heap = h0) (fun _ _ _ _ _ => True) (fun _ U o U' => ∃ v L, o = .returned v ∧ own_Q (Rnf2 h0 (fnf2_0 )) (Knf2 Z   h0 n0 (fnf2_0 )) v U'.heap L ∧ FrameEnd U o U' L Qnf2.cells Qnf2.slots) := by
  refine MetFree.of_bodySF (plainFor_of_name own_pn4) hisR ?_
  intro p e s m args below meth c s₁ Bd hml0 hP hK
  obtain ⟨rfl, hZ, hh⟩ := hP
  have hml : c.maxLocals = 1 := hml0
  have e0 : s₁.heap = h0 := by rw [← hh, Bd.state]; rfl
  exact own_pre (fun t k => castTop (ef_nf2 m ) k) (gnf2_0 hw   Bd hml hZ s₁ (Stand.of_body Bd) e0 SZ0 (Fr.nil n0) (Keep.refl _ _))
abbrev Qpc20 : Room := { frames := 0, cells := 0, slots := 0, locals := 0 }
/-! body 27, pc20 -/
def Rpc20 (t : Unit) : Option Value := none
def Kpc20 (Z : State) (p2 v0 v1 v2 v3 : Int32) (a0 : Addr) (h0 : Heap) (n0 : Nat) (t : Unit) (h : Heap) (L : List Loc) : Prop := Fr n0 L ∧ Keep h0 h [a0] ∧ own_Pv Z h a0 (4 : Int32) [(own_lo p2), (own_hi p2), v2, v3] .byte ∧ own_J Z h
def fpc20_0 (p2 v0 v1 v2 v3 : Int32) : Unit := ()
set_option maxRecDepth 65536 in
set_option maxHeartbeats 40000000 in
theorem gpc20_0 (hw : HW aw Z) {h0 : Heap} {n0 : Nat} (p2 v0 v1 v2 v3 : Int32) (a0 : Addr)
    (Bd : BodyLoose p l y22 (head1 (Jvm.Cond.code y22 Gm 3 none :: ws) Qpc20) Gm 3 none e s m #[(.ref a0), (.int 0), (.int p2)] below meth c s₁) (hml : c.maxLocals = 3) (hZ : Z.Warmed39 s.vm) (Gb : n0 ≤ a0) (T0 : State) {locs : List Loc} (X0 : Stand p l e Qpc20 s m #[(.ref a0), (.int 0), (.int p2)] below meth c T0 locs 0 0) (e0 : T0.heap = h0) (SZ0 : n0 ≤ h0.size) (NF0 : Fr n0 locs) (KP0 : Keep h0 h0 [a0]) (G0 : own_Pv Z h0 a0 (4 : Int32) [v0, v1, v2, v3] .byte) (J0 : own_J Z h0) :
    own_Go p e below s Qpc20.cells Qpc20.slots (Rpc20 (fpc20_0 p2 v0 v1 v2 v3)) (Kpc20 Z p2 v0 v1 v2 v3 a0 h0 n0 (fpc20_0 p2 v0 v1 v2 v3)) (T0.setTop (mkF m 0 #[rv a0, iv 0, iv p2] [])) := by
  have hx := Bd.exec
  have hby := Bd.bytes
  have hown : s.vm.findClass cU = some m.cls := findClass_of_methodNamed Bd.named
  have hnm := (name_of_methodNamed Bd.named Bd.method).1
  unfold fpc20_0
  obtain ⟨cs, sf, js⟩ := id J0
  obtain ⟨T1, X1, e1, st'⟩ := getS2 X0 hx hZ hown (host := "") (Or.inl (ow hw 120 rfl)) Via.refl e0 js.2.2.1 (g := (mkF m 0 #[rv a0, iv 0, iv p2] [])) rfl (hb hby d27_0)
  refine op T1 (mkF m 3 #[rv a0, iv 0, iv p2] [(.int 1)]) (fun _ k => st' _ k) ?_
  have hc3 : ¬ ((1 : Int32) = (0 : Int32)) := (show ¬ (1 : Int32) = 0 by decide)
  refine op T1 (mkF m 37 #[rv a0, iv 1, iv p2] [(.int 0), (.ref a0)]) (fun _ k => XS.ifYes X1.here hx rfl (pc0 := 3) (pc' := 28) rfl (hb hby d27_3) rfl ((if0 _ _).trans (feq hc3).2) (by decide) (by decide) (XS.iloadN X1.here hx rfl (hb hby d27_28) rfl (XS.iconst X1.here hx rfl (hb hby d27_29) (XS.ishl X1.here hx rfl (hb hby d27_30) rfl (XS.istoreN X1.here hx rfl (hb hby d27_31) rfl (l' := #[rv a0, iv 0, iv p2]) rfl (XS.aloadN X1.here hx rfl (hb hby d27_32) rfl rfl (XS.iloadN X1.here hx rfl (hb hby d27_33) rfl (XS.iinc X1.here hx rfl (hb hby d27_34) rfl (l' := #[rv a0, iv 1, iv p2]) rfl k)))))))) ?_
  refine op T1 (mkF m 38 #[rv a0, iv 1, iv p2] [(.int p2), (.int 0), (.ref a0)]) (fun _ k => XS.iloadN X1.here hx rfl (hb hby d27_37) rfl k) ?_
  obtain ⟨cs, sf, js⟩ := id J0
  obtain ⟨T2, X2, e2, st'⟩ := getS2 X1 hx hZ hown (host := "") (Or.inl (ow hw 121 rfl)) Via.refl e1 js.2.2.2.1 (g := (mkF m 38 #[rv a0, iv 1, iv p2] [(.int p2), (.int 0), (.ref a0)])) rfl (hb hby d27_38)
  refine op T2 (mkF m 43 #[rv a0, iv 1, iv p2] [(.int ((p2 >>> ((0 : Int32) &&& 31)).toInt8.toInt32)), (.int 0), (.ref a0)]) (fun _ k => st' _ (XS.ishr X2.here hx rfl (hb hby d27_41) rfl (XS.i2b X2.here hx rfl (hb hby d27_42) rfl k))) ?_
  obtain ⟨k3, cl3, Ar3, q3, S3, N3, H3, G3⟩ := id G0
  have hin3 : ¬ ((0 : Int32) < 0 ∨ cl3.slots.size ≤ ((0 : Int32)).toNatClampNeg) := inb_of S3 ⟨by decide, by decide⟩
  obtain ⟨T3, h3, X3, e3, W3, st'⟩ := stB X2 hx hZ e2 Ar3 (j := (0 : Int32)) hin3 (g := (mkF m 43 #[rv a0, iv 1, iv p2] [(.int ((p2 >>> ((0 : Int32) &&& 31)).toInt8.toInt32)), (.int 0), (.ref a0)])) rfl rfl (hb hby d27_43)
  have f4 : own_Pv Z h3 a0 (4 : Int32) [(((p2 >>> ((0 : Int32) &&& 31)).toInt8.toInt32).toInt8.toInt32), v1, v2, v3] .byte := ⟨_, Arv.set Ar3 q3 S3 N3 H3 G3 (fits_nar_byte _) W3 0 rfl (Nat.le_of_ble_eq_true rfl)⟩
  have f5 := own_J.wr J0 W3
  have NF3 := Fr.snoc X3 NF0 Gb
  have SZ3 : n0 ≤ h3.size := (Nat.le_trans SZ0 (Keep.of_wr W3).1)
  have KP3 : Keep h0 h3 [a0] := KP0.wr W3 (Or.inl (List.mem_of_getElem? (i := 0) rfl))
  refine op T3 (mkF m 47 #[rv a0, iv 1, iv p2] [(.int p2), (.int 1), (.ref a0)]) (fun _ k => st' _ (XS.aloadN X3.here hx rfl (hb hby d27_44) rfl rfl (XS.iloadN X3.here hx rfl (hb hby d27_45) rfl (XS.iloadN X3.here hx rfl (hb hby d27_46) rfl k)))) ?_
  obtain ⟨cs, sf, js⟩ := id f5
  obtain ⟨T6, X6, e6, st'⟩ := getS2 X3 hx hZ hown (host := "") (Or.inl (ow hw 122 rfl)) Via.refl e3 js.2.2.2.2.1 (g := (mkF m 47 #[rv a0, iv 1, iv p2] [(.int p2), (.int 1), (.ref a0)])) rfl (hb hby d27_47)
  refine op T6 (mkF m 52 #[rv a0, iv 1, iv p2] [(.int ((p2 >>> ((8 : Int32) &&& 31)).toInt8.toInt32)), (.int 1), (.ref a0)]) (fun _ k => st' _ (XS.ishr X6.here hx rfl (hb hby d27_50) rfl (XS.i2b X6.here hx rfl (hb hby d27_51) rfl k))) ?_
  obtain ⟨k7, cl7, Ar7, q7, S7, N7, H7, G7⟩ := id f4
  have hin7 : ¬ ((1 : Int32) < 0 ∨ cl7.slots.size ≤ ((1 : Int32)).toNatClampNeg) := inb_of S7 ⟨by decide, by decide⟩
  obtain ⟨T7, h7, X7, e7, W7, st'⟩ := stB X6 hx hZ e6 Ar7 (j := (1 : Int32)) hin7 (g := (mkF m 52 #[rv a0, iv 1, iv p2] [(.int ((p2 >>> ((8 : Int32) &&& 31)).toInt8.toInt32)), (.int 1), (.ref a0)])) rfl rfl (hb hby d27_52)
  have f8 : own_Pv Z h7 a0 (4 : Int32) [(((p2 >>> ((0 : Int32) &&& 31)).toInt8.toInt32).toInt8.toInt32), (((p2 >>> ((8 : Int32) &&& 31)).toInt8.toInt32).toInt8.toInt32), v2, v3] .byte := ⟨_, Arv.set Ar7 q7 S7 N7 H7 G7 (fits_nar_byte _) W7 1 rfl (Nat.le_of_ble_eq_true rfl)⟩
  have f9 := own_J.wr f5 W7
  have NF7 := Fr.snoc X7 NF3 Gb
  have SZ7 : n0 ≤ h7.size := (Nat.le_trans SZ3 (Keep.of_wr W7).1)
  have KP7 : Keep h0 h7 [a0] := KP3.wr W7 (Or.inl (List.mem_of_getElem? (i := 0) rfl))
  refine op T7 (mkF m 53 #[rv a0, iv 1, iv p2] []) (fun _ k => st' _ k) ?_
  exact own_retV X7 hx Bd.notSynchronized Bd.returns (hb hby d27_53) (by rw [e7]; exact ⟨NF7, KP7, f8, f9⟩) (by decide) (by decide)
theorem ef_pc20 (m : MethodId) (a0 : Addr) (p2 : Int32) : entryFrame m #[(.ref a0), (.int 0), (.int p2)] 3 = mkF m 0 #[rv a0, iv 0, iv p2] [] := by first | (simp [entryFrame, mkF, argsToLocals, Value.category]; done) | rfl
set_option maxRecDepth 65536 in
set_option maxHeartbeats 40000000 in
theorem rmpc20 (l : Launch) (Z : State) (aw : Array Value) (hw : HW aw Z) (ws : List Jvm.Cond) (p2 v0 v1 v2 v3 : Int32) (a0 : Addr) (h0 : Heap) (n0 : Nat) (SZ0 : n0 ≤ h0.size) (G0 : own_Pv Z h0 a0 (4 : Int32) [v0, v1, v2, v3] .byte) (J0 : own_J Z h0) (Gb : n0 ≤ a0) :
    MetFree l y22 (head1 (Jvm.Cond.code y22 Gm 3 none :: ws) Qpc20) (fun a U => a = #[(.ref a0), (.int 0), (.int p2)] ∧ Z.Warmed39 U.vm ∧ U.heap = h0) (fun _ _ _ _ _ => True) (fun _ U o U' => ∃ v L, o = .returned v ∧ own_Q (Rpc20 (fpc20_0 p2 v0 v1 v2 v3)) (Kpc20 Z p2 v0 v1 v2 v3 a0 h0 n0 (fpc20_0 p2 v0 v1 v2 v3)) v U'.heap L ∧ FrameEnd U o U' L Qpc20.cells Qpc20.slots) := by
  refine MetFree.of_bodySF (plainFor_of_name own_pn4) hisR ?_
  intro p e s m args below meth c s₁ Bd hml0 hP hK
  obtain ⟨rfl, hZ, hh⟩ := hP
  have hml : c.maxLocals = 3 := hml0
  have e0 : s₁.heap = h0 := by rw [← hh, Bd.state]; rfl
  exact own_pre (fun t k => castTop (ef_pc20 m a0 p2) k) (gpc20_0 hw p2 v0 v1 v2 v3 a0 Bd hml hZ Gb s₁ (Stand.of_body Bd) e0 SZ0 (Fr.nil n0) (Keep.refl _ _) G0 J0)
abbrev Qpc21 : Room := { frames := 0, cells := 0, slots := 0, locals := 0 }
/-! body 27, pc21 -/
def Rpc21 (t : Unit) : Option Value := none
def Kpc21 (Z : State) (p2 v0 v1 v2 v3 : Int32) (a0 : Addr) (h0 : Heap) (n0 : Nat) (t : Unit) (h : Heap) (L : List Loc) : Prop := Fr n0 L ∧ Keep h0 h [a0] ∧ own_Pv Z h a0 (4 : Int32) [v0, v1, (own_lo p2), (own_hi p2)] .byte ∧ own_J Z h
def fpc21_0 (p2 v0 v1 v2 v3 : Int32) : Unit := ()
set_option maxRecDepth 65536 in
set_option maxHeartbeats 40000000 in
theorem gpc21_0 (hw : HW aw Z) {h0 : Heap} {n0 : Nat} (p2 v0 v1 v2 v3 : Int32) (a0 : Addr)
    (Bd : BodyLoose p l y22 (head1 (Jvm.Cond.code y22 Gm 3 none :: ws) Qpc21) Gm 3 none e s m #[(.ref a0), (.int 1), (.int p2)] below meth c s₁) (hml : c.maxLocals = 3) (hZ : Z.Warmed39 s.vm) (Gb : n0 ≤ a0) (T0 : State) {locs : List Loc} (X0 : Stand p l e Qpc21 s m #[(.ref a0), (.int 1), (.int p2)] below meth c T0 locs 0 0) (e0 : T0.heap = h0) (SZ0 : n0 ≤ h0.size) (NF0 : Fr n0 locs) (KP0 : Keep h0 h0 [a0]) (G0 : own_Pv Z h0 a0 (4 : Int32) [v0, v1, v2, v3] .byte) (J0 : own_J Z h0) :
    own_Go p e below s Qpc21.cells Qpc21.slots (Rpc21 (fpc21_0 p2 v0 v1 v2 v3)) (Kpc21 Z p2 v0 v1 v2 v3 a0 h0 n0 (fpc21_0 p2 v0 v1 v2 v3)) (T0.setTop (mkF m 0 #[rv a0, iv 1, iv p2] [])) := by
  have hx := Bd.exec
  have hby := Bd.bytes
  have hown : s.vm.findClass cU = some m.cls := findClass_of_methodNamed Bd.named
  have hnm := (name_of_methodNamed Bd.named Bd.method).1
  unfold fpc21_0
  obtain ⟨cs, sf, js⟩ := id J0
  obtain ⟨T1, X1, e1, st'⟩ := getS2 X0 hx hZ hown (host := "") (Or.inl (ow hw 120 rfl)) Via.refl e0 js.2.2.1 (g := (mkF m 0 #[rv a0, iv 1, iv p2] [])) rfl (hb hby d27_0)
  refine op T1 (mkF m 3 #[rv a0, iv 1, iv p2] [(.int 1)]) (fun _ k => st' _ k) ?_
  have hc3 : ¬ ((1 : Int32) = (0 : Int32)) := (show ¬ (1 : Int32) = 0 by decide)
  refine op T1 (mkF m 37 #[rv a0, iv 3, iv p2] [(.int 2), (.ref a0)]) (fun _ k => XS.ifYes X1.here hx rfl (pc0 := 3) (pc' := 28) rfl (hb hby d27_3) rfl ((if0 _ _).trans (feq hc3).2) (by decide) (by decide) (XS.iloadN X1.here hx rfl (hb hby d27_28) rfl (XS.iconst X1.here hx rfl (hb hby d27_29) (XS.ishl X1.here hx rfl (hb hby d27_30) rfl (XS.istoreN X1.here hx rfl (hb hby d27_31) rfl (l' := #[rv a0, iv 2, iv p2]) rfl (XS.aloadN X1.here hx rfl (hb hby d27_32) rfl rfl (XS.iloadN X1.here hx rfl (hb hby d27_33) rfl (XS.iinc X1.here hx rfl (hb hby d27_34) rfl (l' := #[rv a0, iv 3, iv p2]) rfl k)))))))) ?_
  refine op T1 (mkF m 38 #[rv a0, iv 3, iv p2] [(.int p2), (.int 2), (.ref a0)]) (fun _ k => XS.iloadN X1.here hx rfl (hb hby d27_37) rfl k) ?_
  obtain ⟨cs, sf, js⟩ := id J0
  obtain ⟨T2, X2, e2, st'⟩ := getS2 X1 hx hZ hown (host := "") (Or.inl (ow hw 121 rfl)) Via.refl e1 js.2.2.2.1 (g := (mkF m 38 #[rv a0, iv 3, iv p2] [(.int p2), (.int 2), (.ref a0)])) rfl (hb hby d27_38)
  refine op T2 (mkF m 43 #[rv a0, iv 3, iv p2] [(.int ((p2 >>> ((0 : Int32) &&& 31)).toInt8.toInt32)), (.int 2), (.ref a0)]) (fun _ k => st' _ (XS.ishr X2.here hx rfl (hb hby d27_41) rfl (XS.i2b X2.here hx rfl (hb hby d27_42) rfl k))) ?_
  obtain ⟨k3, cl3, Ar3, q3, S3, N3, H3, G3⟩ := id G0
  have hin3 : ¬ ((2 : Int32) < 0 ∨ cl3.slots.size ≤ ((2 : Int32)).toNatClampNeg) := inb_of S3 ⟨by decide, by decide⟩
  obtain ⟨T3, h3, X3, e3, W3, st'⟩ := stB X2 hx hZ e2 Ar3 (j := (2 : Int32)) hin3 (g := (mkF m 43 #[rv a0, iv 3, iv p2] [(.int ((p2 >>> ((0 : Int32) &&& 31)).toInt8.toInt32)), (.int 2), (.ref a0)])) rfl rfl (hb hby d27_43)
  have f4 : own_Pv Z h3 a0 (4 : Int32) [v0, v1, (((p2 >>> ((0 : Int32) &&& 31)).toInt8.toInt32).toInt8.toInt32), v3] .byte := ⟨_, Arv.set Ar3 q3 S3 N3 H3 G3 (fits_nar_byte _) W3 2 rfl (Nat.le_of_ble_eq_true rfl)⟩
  have f5 := own_J.wr J0 W3
  have NF3 := Fr.snoc X3 NF0 Gb
  have SZ3 : n0 ≤ h3.size := (Nat.le_trans SZ0 (Keep.of_wr W3).1)
  have KP3 : Keep h0 h3 [a0] := KP0.wr W3 (Or.inl (List.mem_of_getElem? (i := 0) rfl))
  refine op T3 (mkF m 47 #[rv a0, iv 3, iv p2] [(.int p2), (.int 3), (.ref a0)]) (fun _ k => st' _ (XS.aloadN X3.here hx rfl (hb hby d27_44) rfl rfl (XS.iloadN X3.here hx rfl (hb hby d27_45) rfl (XS.iloadN X3.here hx rfl (hb hby d27_46) rfl k)))) ?_
  obtain ⟨cs, sf, js⟩ := id f5
  obtain ⟨T6, X6, e6, st'⟩ := getS2 X3 hx hZ hown (host := "") (Or.inl (ow hw 122 rfl)) Via.refl e3 js.2.2.2.2.1 (g := (mkF m 47 #[rv a0, iv 3, iv p2] [(.int p2), (.int 3), (.ref a0)])) rfl (hb hby d27_47)
  refine op T6 (mkF m 52 #[rv a0, iv 3, iv p2] [(.int ((p2 >>> ((8 : Int32) &&& 31)).toInt8.toInt32)), (.int 3), (.ref a0)]) (fun _ k => st' _ (XS.ishr X6.here hx rfl (hb hby d27_50) rfl (XS.i2b X6.here hx rfl (hb hby d27_51) rfl k))) ?_
  obtain ⟨k7, cl7, Ar7, q7, S7, N7, H7, G7⟩ := id f4
  have hin7 : ¬ ((3 : Int32) < 0 ∨ cl7.slots.size ≤ ((3 : Int32)).toNatClampNeg) := inb_of S7 ⟨by decide, by decide⟩
  obtain ⟨T7, h7, X7, e7, W7, st'⟩ := stB X6 hx hZ e6 Ar7 (j := (3 : Int32)) hin7 (g := (mkF m 52 #[rv a0, iv 3, iv p2] [(.int ((p2 >>> ((8 : Int32) &&& 31)).toInt8.toInt32)), (.int 3), (.ref a0)])) rfl rfl (hb hby d27_52)
  have f8 : own_Pv Z h7 a0 (4 : Int32) [v0, v1, (((p2 >>> ((0 : Int32) &&& 31)).toInt8.toInt32).toInt8.toInt32), (((p2 >>> ((8 : Int32) &&& 31)).toInt8.toInt32).toInt8.toInt32)] .byte := ⟨_, Arv.set Ar7 q7 S7 N7 H7 G7 (fits_nar_byte _) W7 3 rfl (Nat.le_of_ble_eq_true rfl)⟩
  have f9 := own_J.wr f5 W7
  have NF7 := Fr.snoc X7 NF3 Gb
  have SZ7 : n0 ≤ h7.size := (Nat.le_trans SZ3 (Keep.of_wr W7).1)
  have KP7 : Keep h0 h7 [a0] := KP3.wr W7 (Or.inl (List.mem_of_getElem? (i := 0) rfl))
  refine op T7 (mkF m 53 #[rv a0, iv 3, iv p2] []) (fun _ k => st' _ k) ?_
  exact own_retV X7 hx Bd.notSynchronized Bd.returns (hb hby d27_53) (by rw [e7]; exact ⟨NF7, KP7, f8, f9⟩) (by decide) (by decide)
theorem ef_pc21 (m : MethodId) (a0 : Addr) (p2 : Int32) : entryFrame m #[(.ref a0), (.int 1), (.int p2)] 3 = mkF m 0 #[rv a0, iv 1, iv p2] [] := by first | (simp [entryFrame, mkF, argsToLocals, Value.category]; done) | rfl
set_option maxRecDepth 65536 in
set_option maxHeartbeats 40000000 in
theorem rmpc21 (l : Launch) (Z : State) (aw : Array Value) (hw : HW aw Z) (ws : List Jvm.Cond) (p2 v0 v1 v2 v3 : Int32) (a0 : Addr) (h0 : Heap) (n0 : Nat) (SZ0 : n0 ≤ h0.size) (G0 : own_Pv Z h0 a0 (4 : Int32) [v0, v1, v2, v3] .byte) (J0 : own_J Z h0) (Gb : n0 ≤ a0) :
    MetFree l y22 (head1 (Jvm.Cond.code y22 Gm 3 none :: ws) Qpc21) (fun a U => a = #[(.ref a0), (.int 1), (.int p2)] ∧ Z.Warmed39 U.vm ∧ U.heap = h0) (fun _ _ _ _ _ => True) (fun _ U o U' => ∃ v L, o = .returned v ∧ own_Q (Rpc21 (fpc21_0 p2 v0 v1 v2 v3)) (Kpc21 Z p2 v0 v1 v2 v3 a0 h0 n0 (fpc21_0 p2 v0 v1 v2 v3)) v U'.heap L ∧ FrameEnd U o U' L Qpc21.cells Qpc21.slots) := by
  refine MetFree.of_bodySF (plainFor_of_name own_pn4) hisR ?_
  intro p e s m args below meth c s₁ Bd hml0 hP hK
  obtain ⟨rfl, hZ, hh⟩ := hP
  have hml : c.maxLocals = 3 := hml0
  have e0 : s₁.heap = h0 := by rw [← hh, Bd.state]; rfl
  exact own_pre (fun t k => castTop (ef_pc21 m a0 p2) k) (gpc21_0 hw p2 v0 v1 v2 v3 a0 Bd hml hZ Gb s₁ (Stand.of_body Bd) e0 SZ0 (Fr.nil n0) (Keep.refl _ _) G0 J0)
abbrev Qtb2 : Room := { frames := 2, cells := 1, slots := 4, locals := 40 }
/-! body 24, tb2 -/
def Rtb2 (h0 : Heap) (t : Unit) : Option Value := some (.ref h0.size)
def Ktb2 (Z : State) (c0 c1 : Int32) (a0 : Addr) (h0 : Heap) (n0 : Nat) (t : Unit) (h : Heap) (L : List Loc) : Prop := Fr n0 L ∧ Keep h0 h [] ∧ own_Pv Z h h0.size (4 : Int32) [(own_lo c0), (own_hi c0), (own_lo c1), (own_hi c1)] .byte ∧ own_J Z h
def ftb2_0 (c0 c1 : Int32) : Unit := ()
set_option maxRecDepth 65536 in
set_option maxHeartbeats 40000000 in
theorem gtb2_0 (hw : HW aw Z) {h0 : Heap} {n0 : Nat} (c0 c1 : Int32) (a0 : Addr)
    (Bd : BodyLoose p l y23 (head1 (Jvm.Cond.code y23 Gt 5 (some (.array .byte)) :: ws) Qtb2) Gt 5 (some (.array .byte)) e s m #[(.ref a0), (.int 0), (.int 2)] below meth c s₁) (hml : c.maxLocals = 5) (hZ : Z.Warmed39 s.vm) (T0 : State) {locs : List Loc} (X0 : Stand p l e Qtb2 s m #[(.ref a0), (.int 0), (.int 2)] below meth c T0 locs 0 0) (e0 : T0.heap = h0) (SZ0 : n0 ≤ h0.size) (NF0 : Fr n0 locs) (KP0 : Keep h0 h0 []) (G0 : own_Pv Z h0 a0 (2 : Int32) [c0, c1] .char) (J0 : own_J Z h0) :
    own_Go p e below s Qtb2.cells Qtb2.slots (Rtb2 h0 (ftb2_0 c0 c1)) (Ktb2 Z c0 c1 a0 h0 n0 (ftb2_0 c0 c1)) (T0.setTop (mkF m 0 #[rv a0, iv 0, iv 2, uu, uu] [])) := by
  have hx := Bd.exec
  have hby := Bd.bytes
  have hown : s.vm.findClass cU = some m.cls := findClass_of_methodNamed Bd.named
  have hnm := (name_of_methodNamed Bd.named Bd.method).1
  unfold ftb2_0
  refine op T0 (mkF m 1 #[rv a0, iv 0, iv 2, uu, uu] [(.int 2)]) (fun _ k => XS.iloadN X0.here hx rfl (hb hby d24_0) rfl k) ?_
  obtain ⟨_, _, ⟨T1, L1, k1, n1⟩, -, X1', ⟨Lc1, hQ1, l1, y1, z1⟩, st'⟩ := Jvm.LawKit.callS X0 hx (y := y21) hown (mvT hZ (ow hw 110 rfl)) (mvT hZ (ow hw 111 rfl)) (mvT hZ (ow hw 35 rfl)) (mvT hZ (ow hw 112 rfl)) (by decide) (backOf (W := 0) (rmnf2 l Z aw hw []   h0 n0 SZ0 ) hZ (ow hw 112 rfl) (ow hw 35 rfl) (by decide) (by decide)) (g := (mkF m 1 #[rv a0, iv 0, iv 2, uu, uu] [(.int 2)])) rfl (by rw [hml]; rfl) (argsL := [(.int 2)]) (rest := []) (lenOf own_pd12 rfl) rfl (by show 2 * 0 + _ ≤ _; exact Nat.le_of_eq rfl) (hb hby d24_1) (fun _ _ => ⟨rfl, e0, (by decide : 0 + 1 ≤ _), (by decide : 0 + 4 ≤ _)⟩)
  dsimp only [Pt.U, Pt.locs, Pt.cells, Pt.slots] at X1' l1 y1 z1 st' hQ1
  subst l1 y1 z1
  obtain ⟨rfl, NFq1, KPq1, p1_0⟩ := hQ1
  have X1 : Stand p l e Qtb2 s m #[(.ref a0), (.int 0), (.int 2)] below meth c T1 _ 1 4 := X1'
  have NF1 := Fr.app NF0 NFq1
  have SZ1 : n0 ≤ T1.heap.size := Nat.le_trans SZ0 KPq1.1
  have KP1 : Keep h0 T1.heap [] := KP0.trans KPq1 all0
  obtain ⟨b1, g1⟩ : ∃ z, z = h0.size := ⟨_, rfl⟩
  simp only [Rnf2, ← g1] at st' p1_0
  have Gu : n0 ≤ b1 := Nat.le_trans SZ0 (Nat.le_of_eq g1.symm)
  have Gr : h0.size ≤ b1 := Nat.le_trans KP0.1 (Nat.le_of_eq g1.symm)
  have Go : a0 ≠ b1 := Nat.ne_of_lt (Nat.lt_of_lt_of_le G0.lt (Nat.le_of_eq g1.symm))
  have f2 := G0.keep KPq1 nin0
  have f3 := own_J.keep J0 KPq1
  refine op T1 (mkF m 11 #[rv a0, iv 0, iv 2, rv b1, iv 0] [(.int 2), (.int 0)]) (fun _ k => st' _ (XS.astoreN X1.here hx rfl (hb hby d24_4) rfl rfl (l' := #[rv a0, iv 0, iv 2, rv b1, uu]) rfl (XS.iconst X1.here hx rfl (hb hby d24_5) (XS.istore X1.here hx rfl (hb hby d24_6) rfl (l' := #[rv a0, iv 0, iv 2, rv b1, iv 0]) rfl (XS.iload X1.here hx rfl (hb hby d24_8) rfl (XS.iloadN X1.here hx rfl (hb hby d24_10) rfl k)))))) ?_
  have hd4 : (0 : Int32) < (2 : Int32) := by decide
  refine op T1 (mkF m 19 #[rv a0, iv 0, iv 2, rv b1, iv 0] [(.int 0), (.ref a0), (.int 0), (.ref b1)]) (fun _ k => XS.icmpNo X1.here hx rfl (hb hby d24_11) rfl (tlt hd4).2.1 (XS.aloadN X1.here hx rfl (hb hby d24_14) rfl rfl (XS.iload X1.here hx rfl (hb hby d24_15) rfl (XS.aloadN X1.here hx rfl (hb hby d24_17) rfl rfl (XS.iloadN X1.here hx rfl (hb hby d24_18) rfl k))))) ?_
  obtain ⟨k5, cl5, Ar5, q5, S5, N5, H5, G5⟩ := id f2
  have hin5 : ¬ ((0 : Int32) < 0 ∨ cl5.slots.size ≤ ((0 : Int32)).toNatClampNeg) := inb_of S5 ⟨by decide, by decide⟩
  refine op T1 (mkF m 20 #[rv a0, iv 0, iv 2, rv b1, iv 0] [(.int c0), (.int 0), (.ref b1)]) (fun t k => X1.caload hx (j := (0 : Int32)) (v := (.int c0)) (by rw [(rfl : T1.heap = T1.heap)]; exact Ar5.1) (State.isArrayOf_alike hZ.alike Ar5.2.1) Ar5.2.2 hin5 (H5.at hin5 rfl) (g := (mkF m 19 #[rv a0, iv 0, iv 2, rv b1, iv 0] [(.int 0), (.ref a0), (.int 0), (.ref b1)])) rfl rfl (hb hby d24_19) t k) ?_
  obtain ⟨_, _, ⟨T6, L6, k6, n6⟩, -, X6', ⟨Lc6, hQ6, l6, y6, z6⟩, st'⟩ := Jvm.LawKit.callS X1 hx (y := y22) hown (mvT hZ (ow hw 117 rfl)) (mvT hZ (ow hw 118 rfl)) (mvT hZ (ow hw 35 rfl)) (mvT hZ (ow hw 119 rfl)) (by decide) (backOf (W := 0) (rmpc20 l Z aw hw [] c0 (0 : Int32) (0 : Int32) (0 : Int32) (0 : Int32) b1 T1.heap n0 SZ1 p1_0 f3 Gu) hZ (ow hw 119 rfl) (ow hw 35 rfl) (by decide) (by decide)) (g := (mkF m 20 #[rv a0, iv 0, iv 2, rv b1, iv 0] [(.int c0), (.int 0), (.ref b1)])) rfl (by rw [hml]; rfl) (argsL := [(.ref b1), (.int 0), (.int c0)]) (rest := []) (lenOf own_pd13 rfl) rfl (by show 2 * 0 + _ ≤ _; exact Nat.le_of_eq rfl) (hb hby d24_20) (fun _ _ => ⟨rfl, (rfl : T1.heap = T1.heap), (by decide : 1 + 0 ≤ _), (by decide : 4 + 0 ≤ _)⟩)
  dsimp only [Pt.U, Pt.locs, Pt.cells, Pt.slots] at X6' l6 y6 z6 st' hQ6
  subst l6 y6 z6
  obtain ⟨rfl, NFq6, KPq6, p6_0, p6_1⟩ := hQ6
  have X6 : Stand p l e Qtb2 s m #[(.ref a0), (.int 0), (.int 2)] below meth c T6 _ 1 4 := X6'
  have NF6 := Fr.app NF1 NFq6
  have SZ6 : n0 ≤ T6.heap.size := Nat.le_trans SZ1 KPq6.1
  have KP6 : Keep h0 T6.heap [] := KP1.trans KPq6 (allS (Or.inr Gr) all0)
  have f7 := f2.keep KPq6 (ninS Go nin0)
  refine op T6 (mkF m 11 #[rv a0, iv 1, iv 2, rv b1, iv 1] [(.int 2), (.int 1)]) (fun _ k => st' _ (XS.iinc X6.here hx rfl (hb hby d24_23) rfl (l' := #[rv a0, iv 1, iv 2, rv b1, iv 0]) rfl (XS.iinc X6.here hx rfl (hb hby d24_26) rfl (l' := #[rv a0, iv 1, iv 2, rv b1, iv 1]) rfl (XS.goto X6.here hx rfl (pc0 := 29) (pc' := 8) rfl (hb hby d24_29) (by decide) (by decide) (XS.iload X6.here hx rfl (hb hby d24_8) rfl (XS.iloadN X6.here hx rfl (hb hby d24_10) rfl k)))))) ?_
  have hd8 : (1 : Int32) < (2 : Int32) := by decide
  refine op T6 (mkF m 19 #[rv a0, iv 1, iv 2, rv b1, iv 1] [(.int 1), (.ref a0), (.int 1), (.ref b1)]) (fun _ k => XS.icmpNo X6.here hx rfl (hb hby d24_11) rfl (tlt hd8).2.1 (XS.aloadN X6.here hx rfl (hb hby d24_14) rfl rfl (XS.iload X6.here hx rfl (hb hby d24_15) rfl (XS.aloadN X6.here hx rfl (hb hby d24_17) rfl rfl (XS.iloadN X6.here hx rfl (hb hby d24_18) rfl k))))) ?_
  obtain ⟨k9, cl9, Ar9, q9, S9, N9, H9, G9⟩ := id f7
  have hin9 : ¬ ((1 : Int32) < 0 ∨ cl9.slots.size ≤ ((1 : Int32)).toNatClampNeg) := inb_of S9 ⟨by decide, by decide⟩
  refine op T6 (mkF m 20 #[rv a0, iv 1, iv 2, rv b1, iv 1] [(.int c1), (.int 1), (.ref b1)]) (fun t k => X6.caload hx (j := (1 : Int32)) (v := (.int c1)) (by rw [(rfl : T6.heap = T6.heap)]; exact Ar9.1) (State.isArrayOf_alike hZ.alike Ar9.2.1) Ar9.2.2 hin9 (H9.at hin9 rfl) (g := (mkF m 19 #[rv a0, iv 1, iv 2, rv b1, iv 1] [(.int 1), (.ref a0), (.int 1), (.ref b1)])) rfl rfl (hb hby d24_19) t k) ?_
  obtain ⟨_, _, ⟨T10, L10, k10, n10⟩, -, X10', ⟨Lc10, hQ10, l10, y10, z10⟩, st'⟩ := Jvm.LawKit.callS X6 hx (y := y22) hown (mvT hZ (ow hw 117 rfl)) (mvT hZ (ow hw 118 rfl)) (mvT hZ (ow hw 35 rfl)) (mvT hZ (ow hw 119 rfl)) (by decide) (backOf (W := 0) (rmpc21 l Z aw hw [] c1 (own_lo c0) (own_hi c0) (0 : Int32) (0 : Int32) b1 T6.heap n0 SZ6 p6_0 p6_1 Gu) hZ (ow hw 119 rfl) (ow hw 35 rfl) (by decide) (by decide)) (g := (mkF m 20 #[rv a0, iv 1, iv 2, rv b1, iv 1] [(.int c1), (.int 1), (.ref b1)])) rfl (by rw [hml]; rfl) (argsL := [(.ref b1), (.int 1), (.int c1)]) (rest := []) (lenOf own_pd13 rfl) rfl (by show 2 * 0 + _ ≤ _; exact Nat.le_of_eq rfl) (hb hby d24_20) (fun _ _ => ⟨rfl, (rfl : T6.heap = T6.heap), (by decide : 1 + 0 ≤ _), (by decide : 4 + 0 ≤ _)⟩)
  dsimp only [Pt.U, Pt.locs, Pt.cells, Pt.slots] at X10' l10 y10 z10 st' hQ10
  subst l10 y10 z10
  obtain ⟨rfl, NFq10, KPq10, p10_0, p10_1⟩ := hQ10
  have X10 : Stand p l e Qtb2 s m #[(.ref a0), (.int 0), (.int 2)] below meth c T10 _ 1 4 := X10'
  have NF10 := Fr.app NF6 NFq10
  have SZ10 : n0 ≤ T10.heap.size := Nat.le_trans SZ6 KPq10.1
  have KP10 : Keep h0 T10.heap [] := KP6.trans KPq10 (allS (Or.inr Gr) all0)
  have f11 := f7.keep KPq10 (ninS Go nin0)
  refine op T10 (mkF m 11 #[rv a0, iv 2, iv 2, rv b1, iv 2] [(.int 2), (.int 2)]) (fun _ k => st' _ (XS.iinc X10.here hx rfl (hb hby d24_23) rfl (l' := #[rv a0, iv 2, iv 2, rv b1, iv 1]) rfl (XS.iinc X10.here hx rfl (hb hby d24_26) rfl (l' := #[rv a0, iv 2, iv 2, rv b1, iv 2]) rfl (XS.goto X10.here hx rfl (pc0 := 29) (pc' := 8) rfl (hb hby d24_29) (by decide) (by decide) (XS.iload X10.here hx rfl (hb hby d24_8) rfl (XS.iloadN X10.here hx rfl (hb hby d24_10) rfl k)))))) ?_
  have hd12 : ¬ ((2 : Int32) < (2 : Int32)) := by decide
  refine op T10 (mkF m 33 #[rv a0, iv 2, iv 2, rv b1, iv 2] [(.ref b1)]) (fun _ k => XS.icmpYes X10.here hx rfl (pc0 := 11) (pc' := 32) rfl (hb hby d24_11) rfl (flt hd12).2.1 (by decide) (by decide) (XS.aloadN X10.here hx rfl (hb hby d24_32) rfl rfl k)) ?_
  subst g1
  exact own_ret (w := (.ref h0.size)) X10 hx Bd.notSynchronized Bd.returns rfl (Or.inr (Or.inr ⟨rfl, rfl, rfl⟩)) (hb hby d24_33) ⟨NF10, KP10, p10_0, p10_1⟩ (by decide) (by decide)
theorem ef_tb2 (m : MethodId) (a0 : Addr) : entryFrame m #[(.ref a0), (.int 0), (.int 2)] 5 = mkF m 0 #[rv a0, iv 0, iv 2, uu, uu] [] := by first | (simp [entryFrame, mkF, argsToLocals, Value.category]; done) | rfl
set_option maxRecDepth 65536 in
set_option maxHeartbeats 40000000 in
theorem rmtb2 (l : Launch) (Z : State) (aw : Array Value) (hw : HW aw Z) (ws : List Jvm.Cond) (c0 c1 : Int32) (a0 : Addr) (h0 : Heap) (n0 : Nat) (SZ0 : n0 ≤ h0.size) (G0 : own_Pv Z h0 a0 (2 : Int32) [c0, c1] .char) (J0 : own_J Z h0) :
    MetFree l y23 (head1 (Jvm.Cond.code y23 Gt 5 (some (.array .byte)) :: ws) Qtb2) (fun a U => a = #[(.ref a0), (.int 0), (.int 2)] ∧ Z.Warmed39 U.vm ∧ U.heap = h0) (fun _ _ _ _ _ => True) (fun _ U o U' => ∃ v L, o = .returned v ∧ own_Q (Rtb2 h0 (ftb2_0 c0 c1)) (Ktb2 Z c0 c1 a0 h0 n0 (ftb2_0 c0 c1)) v U'.heap L ∧ FrameEnd U o U' L Qtb2.cells Qtb2.slots) := by
  refine MetFree.of_bodySF (plainFor_of_name own_pn4) hisR ?_
  intro p e s m args below meth c s₁ Bd hml0 hP hK
  obtain ⟨rfl, hZ, hh⟩ := hP
  have hml : c.maxLocals = 5 := hml0
  have e0 : s₁.heap = h0 := by rw [← hh, Bd.state]; rfl
  exact own_pre (fun t k => castTop (ef_tb2 m a0) k) (gtb2_0 hw c0 c1 a0 Bd hml hZ s₁ (Stand.of_body Bd) e0 SZ0 (Fr.nil n0) (Keep.refl _ _) G0 J0)
abbrev Qc2L2 : Room := { frames := 0, cells := 0, slots := 0, locals := 0 }
/-! body 7, c2L2 -/
def Rc2L2 (t : Int32) : Option Value := some (.int t)
def Kc2L2 (Z : State) (c0 c1 : Int32) (a0 a2 : Addr) (h0 : Heap) (n0 : Nat) (t : Int32) (h : Heap) (L : List Loc) : Prop := Fr n0 L ∧ Keep h0 h [a2] ∧ own_Pv Z h a2 (2 : Int32) [(own_by c0), (own_by c1)] .byte ∧ own_J Z h
def fc2L2_0 (c0 c1 : Int32) : Int32 := (2 : Int32)
set_option maxRecDepth 65536 in
set_option maxHeartbeats 40000000 in
theorem gc2L2_0 (hw : HW aw Z) {h0 : Heap} {n0 : Nat} (c0 c1 : Int32) (a0 a2 : Addr) (Gv : a0 ≠ a2) (hL0 : ¬ (255 : Int32) < c0) (hL1 : ¬ (255 : Int32) < c1)
    (Bd : BodyLoose p l y24 (head1 (Jvm.Cond.code y24 Gj 7 (some .int) :: ws) Qc2L2) Gj 7 (some .int) e s m #[(.ref a0), (.int 0), (.ref a2), (.int 0), (.int 2)] below meth c s₁) (hml : c.maxLocals = 7) (hZ : Z.Warmed39 s.vm) (Gn : n0 ≤ a2) (T0 : State) {locs : List Loc} (X0 : Stand p l e Qc2L2 s m #[(.ref a0), (.int 0), (.ref a2), (.int 0), (.int 2)] below meth c T0 locs 0 0) (e0 : T0.heap = h0) (SZ0 : n0 ≤ h0.size) (NF0 : Fr n0 locs) (KP0 : Keep h0 h0 [a2]) (G0 : own_Pv Z h0 a0 (2 : Int32) [c0, c1] .char) (Gp : own_Pv Z h0 a2 (2 : Int32) [(0 : Int32), (0 : Int32)] .byte) (J0 : own_J Z h0) :
    own_Go p e below s Qc2L2.cells Qc2L2.slots (Rc2L2 (fc2L2_0 c0 c1)) (Kc2L2 Z c0 c1 a0 a2 h0 n0 (fc2L2_0 c0 c1)) (T0.setTop (mkF m 0 #[rv a0, iv 0, rv a2, iv 0, iv 2, uu, uu] [])) := by
  have hx := Bd.exec
  have hby := Bd.bytes
  have hown : s.vm.findClass cU = some m.cls := findClass_of_methodNamed Bd.named
  have hnm := (name_of_methodNamed Bd.named Bd.method).1
  unfold fc2L2_0
  refine op T0 (mkF m 7 #[rv a0, iv 0, rv a2, iv 0, iv 2, iv 0, uu] [(.int 2), (.int 0)]) (fun _ k => XS.iconst X0.here hx rfl (hb hby d7_0) (XS.istore X0.here hx rfl (hb hby d7_1) rfl (l' := #[rv a0, iv 0, rv a2, iv 0, iv 2, iv 0, uu]) rfl (XS.iload X0.here hx rfl (hb hby d7_3) rfl (XS.iload X0.here hx rfl (hb hby d7_5) rfl k)))) ?_
  have hd1 : (0 : Int32) < (2 : Int32) := by decide
  refine op T0 (mkF m 12 #[rv a0, iv 0, rv a2, iv 0, iv 2, iv 0, uu] [(.int 0), (.ref a0)]) (fun _ k => XS.icmpNo X0.here hx rfl (hb hby d7_7) rfl (tlt hd1).2.1 (XS.aloadN X0.here hx rfl (hb hby d7_10) rfl rfl (XS.iloadN X0.here hx rfl (hb hby d7_11) rfl k))) ?_
  obtain ⟨k2, cl2, Ar2, q2, S2, N2, H2, G2⟩ := id G0
  have hin2 : ¬ ((0 : Int32) < 0 ∨ cl2.slots.size ≤ ((0 : Int32)).toNatClampNeg) := inb_of S2 ⟨by decide, by decide⟩
  refine op T0 (mkF m 13 #[rv a0, iv 0, rv a2, iv 0, iv 2, iv 0, uu] [(.int c0)]) (fun t k => X0.caload hx (j := (0 : Int32)) (v := (.int c0)) (by rw [e0]; exact Ar2.1) (State.isArrayOf_alike hZ.alike Ar2.2.1) Ar2.2.2 hin2 (H2.at hin2 rfl) (g := (mkF m 12 #[rv a0, iv 0, rv a2, iv 0, iv 2, iv 0, uu] [(.int 0), (.ref a0)])) rfl rfl (hb hby d7_12) t k) ?_
  refine op T0 (mkF m 20 #[rv a0, iv 0, rv a2, iv 0, iv 2, iv 0, iv c0] [(.int 255), (.int c0)]) (fun _ k => XS.istore X0.here hx rfl (hb hby d7_13) rfl (l' := #[rv a0, iv 0, rv a2, iv 0, iv 2, iv 0, iv c0]) rfl (XS.iload X0.here hx rfl (hb hby d7_15) rfl (XS.sipush X0.here hx rfl (hb hby d7_17) k))) ?_
  have hc20 : ¬ ((255 : Int32) < c0) := hL0
  refine op T0 (mkF m 31 #[rv a0, iv 0, rv a2, iv 0, iv 2, iv 0, iv c0] [(.int (c0.toInt8.toInt32)), (.int 0), (.ref a2)]) (fun _ k => XS.icmpYes X0.here hx rfl (pc0 := 20) (pc' := 26) rfl (hb hby d7_20) rfl (flt hc20).2.2.2 (by decide) (by decide) (XS.aloadN X0.here hx rfl (hb hby d7_26) rfl rfl (XS.iloadN X0.here hx rfl (hb hby d7_27) rfl (XS.iload X0.here hx rfl (hb hby d7_28) rfl (XS.i2b X0.here hx rfl (hb hby d7_30) rfl k))))) ?_
  obtain ⟨k3, cl3, Ar3, q3, S3, N3, H3, G3⟩ := id Gp
  have hin3 : ¬ ((0 : Int32) < 0 ∨ cl3.slots.size ≤ ((0 : Int32)).toNatClampNeg) := inb_of S3 ⟨by decide, by decide⟩
  obtain ⟨T3, h3, X3, e3, W3, st'⟩ := stB X0 hx hZ e0 Ar3 (j := (0 : Int32)) hin3 (g := (mkF m 31 #[rv a0, iv 0, rv a2, iv 0, iv 2, iv 0, iv c0] [(.int (c0.toInt8.toInt32)), (.int 0), (.ref a2)])) rfl rfl (hb hby d7_31)
  have f4 : own_Pv Z h3 a2 (2 : Int32) [((c0.toInt8.toInt32).toInt8.toInt32), (0 : Int32)] .byte := ⟨_, Arv.set Ar3 q3 S3 N3 H3 G3 (fits_nar_byte _) W3 0 rfl (Nat.le_of_ble_eq_true rfl)⟩
  have f5 := G0.other W3 Gv
  have f6 := own_J.wr J0 W3
  have NF3 := Fr.snoc X3 NF0 Gn
  have SZ3 : n0 ≤ h3.size := (Nat.le_trans SZ0 (Keep.of_wr W3).1)
  have KP3 : Keep h0 h3 [a2] := KP0.wr W3 (Or.inl (List.mem_of_getElem? (i := 0) rfl))
  refine op T3 (mkF m 7 #[rv a0, iv 1, rv a2, iv 1, iv 2, iv 1, iv c0] [(.int 2), (.int 1)]) (fun _ k => st' _ (XS.iinc X3.here hx rfl (hb hby d7_32) rfl (l' := #[rv a0, iv 1, rv a2, iv 0, iv 2, iv 0, iv c0]) rfl (XS.iinc X3.here hx rfl (hb hby d7_35) rfl (l' := #[rv a0, iv 1, rv a2, iv 1, iv 2, iv 0, iv c0]) rfl (XS.iinc X3.here hx rfl (hb hby d7_38) rfl (l' := #[rv a0, iv 1, rv a2, iv 1, iv 2, iv 1, iv c0]) rfl (XS.goto X3.here hx rfl (pc0 := 41) (pc' := 3) rfl (hb hby d7_41) (by decide) (by decide) (XS.iload X3.here hx rfl (hb hby d7_3) rfl (XS.iload X3.here hx rfl (hb hby d7_5) rfl k))))))) ?_
  have hd7 : (1 : Int32) < (2 : Int32) := by decide
  refine op T3 (mkF m 12 #[rv a0, iv 1, rv a2, iv 1, iv 2, iv 1, iv c0] [(.int 1), (.ref a0)]) (fun _ k => XS.icmpNo X3.here hx rfl (hb hby d7_7) rfl (tlt hd7).2.1 (XS.aloadN X3.here hx rfl (hb hby d7_10) rfl rfl (XS.iloadN X3.here hx rfl (hb hby d7_11) rfl k))) ?_
  obtain ⟨k8, cl8, Ar8, q8, S8, N8, H8, G8⟩ := id f5
  have hin8 : ¬ ((1 : Int32) < 0 ∨ cl8.slots.size ≤ ((1 : Int32)).toNatClampNeg) := inb_of S8 ⟨by decide, by decide⟩
  refine op T3 (mkF m 13 #[rv a0, iv 1, rv a2, iv 1, iv 2, iv 1, iv c0] [(.int c1)]) (fun t k => X3.caload hx (j := (1 : Int32)) (v := (.int c1)) (by rw [e3]; exact Ar8.1) (State.isArrayOf_alike hZ.alike Ar8.2.1) Ar8.2.2 hin8 (H8.at hin8 rfl) (g := (mkF m 12 #[rv a0, iv 1, rv a2, iv 1, iv 2, iv 1, iv c0] [(.int 1), (.ref a0)])) rfl rfl (hb hby d7_12) t k) ?_
  refine op T3 (mkF m 20 #[rv a0, iv 1, rv a2, iv 1, iv 2, iv 1, iv c1] [(.int 255), (.int c1)]) (fun _ k => XS.istore X3.here hx rfl (hb hby d7_13) rfl (l' := #[rv a0, iv 1, rv a2, iv 1, iv 2, iv 1, iv c1]) rfl (XS.iload X3.here hx rfl (hb hby d7_15) rfl (XS.sipush X3.here hx rfl (hb hby d7_17) k))) ?_
  have hc20 : ¬ ((255 : Int32) < c1) := hL1
  refine op T3 (mkF m 31 #[rv a0, iv 1, rv a2, iv 1, iv 2, iv 1, iv c1] [(.int (c1.toInt8.toInt32)), (.int 1), (.ref a2)]) (fun _ k => XS.icmpYes X3.here hx rfl (pc0 := 20) (pc' := 26) rfl (hb hby d7_20) rfl (flt hc20).2.2.2 (by decide) (by decide) (XS.aloadN X3.here hx rfl (hb hby d7_26) rfl rfl (XS.iloadN X3.here hx rfl (hb hby d7_27) rfl (XS.iload X3.here hx rfl (hb hby d7_28) rfl (XS.i2b X3.here hx rfl (hb hby d7_30) rfl k))))) ?_
  obtain ⟨k9, cl9, Ar9, q9, S9, N9, H9, G9⟩ := id f4
  have hin9 : ¬ ((1 : Int32) < 0 ∨ cl9.slots.size ≤ ((1 : Int32)).toNatClampNeg) := inb_of S9 ⟨by decide, by decide⟩
  obtain ⟨T9, h9, X9, e9, W9, st'⟩ := stB X3 hx hZ e3 Ar9 (j := (1 : Int32)) hin9 (g := (mkF m 31 #[rv a0, iv 1, rv a2, iv 1, iv 2, iv 1, iv c1] [(.int (c1.toInt8.toInt32)), (.int 1), (.ref a2)])) rfl rfl (hb hby d7_31)
  have f10 : own_Pv Z h9 a2 (2 : Int32) [((c0.toInt8.toInt32).toInt8.toInt32), ((c1.toInt8.toInt32).toInt8.toInt32)] .byte := ⟨_, Arv.set Ar9 q9 S9 N9 H9 G9 (fits_nar_byte _) W9 1 rfl (Nat.le_of_ble_eq_true rfl)⟩
  have f11 := f5.other W9 Gv
  have f12 := own_J.wr f6 W9
  have NF9 := Fr.snoc X9 NF3 Gn
  have SZ9 : n0 ≤ h9.size := (Nat.le_trans SZ3 (Keep.of_wr W9).1)
  have KP9 : Keep h0 h9 [a2] := KP3.wr W9 (Or.inl (List.mem_of_getElem? (i := 0) rfl))
  refine op T9 (mkF m 7 #[rv a0, iv 2, rv a2, iv 2, iv 2, iv 2, iv c1] [(.int 2), (.int 2)]) (fun _ k => st' _ (XS.iinc X9.here hx rfl (hb hby d7_32) rfl (l' := #[rv a0, iv 2, rv a2, iv 1, iv 2, iv 1, iv c1]) rfl (XS.iinc X9.here hx rfl (hb hby d7_35) rfl (l' := #[rv a0, iv 2, rv a2, iv 2, iv 2, iv 1, iv c1]) rfl (XS.iinc X9.here hx rfl (hb hby d7_38) rfl (l' := #[rv a0, iv 2, rv a2, iv 2, iv 2, iv 2, iv c1]) rfl (XS.goto X9.here hx rfl (pc0 := 41) (pc' := 3) rfl (hb hby d7_41) (by decide) (by decide) (XS.iload X9.here hx rfl (hb hby d7_3) rfl (XS.iload X9.here hx rfl (hb hby d7_5) rfl k))))))) ?_
  have hd13 : ¬ ((2 : Int32) < (2 : Int32)) := by decide
  refine op T9 (mkF m 46 #[rv a0, iv 2, rv a2, iv 2, iv 2, iv 2, iv c1] [(.int 2)]) (fun _ k => XS.icmpYes X9.here hx rfl (pc0 := 7) (pc' := 44) rfl (hb hby d7_7) rfl (flt hd13).2.1 (by decide) (by decide) (XS.iload X9.here hx rfl (hb hby d7_44) rfl k)) ?_
  exact own_ret (w := (.int 2)) X9 hx Bd.notSynchronized Bd.returns rfl (Or.inl ⟨rfl, by simp, _, rfl⟩) (hb hby d7_46) (by rw [e9]; exact ⟨NF9, KP9, f10, f12⟩) (by decide) (by decide)
theorem ef_c2L2 (m : MethodId) (a0 a2 : Addr) : entryFrame m #[(.ref a0), (.int 0), (.ref a2), (.int 0), (.int 2)] 7 = mkF m 0 #[rv a0, iv 0, rv a2, iv 0, iv 2, uu, uu] [] := by first | (simp [entryFrame, mkF, argsToLocals, Value.category]; done) | rfl
set_option maxRecDepth 65536 in
set_option maxHeartbeats 40000000 in
theorem rmc2L2 (l : Launch) (Z : State) (aw : Array Value) (hw : HW aw Z) (ws : List Jvm.Cond) (c0 c1 : Int32) (a0 a2 : Addr) (h0 : Heap) (n0 : Nat) (SZ0 : n0 ≤ h0.size) (G0 : own_Pv Z h0 a0 (2 : Int32) [c0, c1] .char) (Gp : own_Pv Z h0 a2 (2 : Int32) [(0 : Int32), (0 : Int32)] .byte) (J0 : own_J Z h0) (Gv : a0 ≠ a2) (hL0 : ¬ (255 : Int32) < c0) (hL1 : ¬ (255 : Int32) < c1) (Gn : n0 ≤ a2) :
    MetFree l y24 (head1 (Jvm.Cond.code y24 Gj 7 (some .int) :: ws) Qc2L2) (fun a U => a = #[(.ref a0), (.int 0), (.ref a2), (.int 0), (.int 2)] ∧ Z.Warmed39 U.vm ∧ U.heap = h0) (fun _ _ _ _ _ => True) (fun _ U o U' => ∃ v L, o = .returned v ∧ own_Q (Rc2L2 (fc2L2_0 c0 c1)) (Kc2L2 Z c0 c1 a0 a2 h0 n0 (fc2L2_0 c0 c1)) v U'.heap L ∧ FrameEnd U o U' L Qc2L2.cells Qc2L2.slots) := by
  refine MetFree.of_bodySF (plainFor_of_name own_pn4) hisR ?_
  intro p e s m args below meth c s₁ Bd hml0 hP hK
  obtain ⟨rfl, hZ, hh⟩ := hP
  have hml : c.maxLocals = 7 := hml0
  have e0 : s₁.heap = h0 := by rw [← hh, Bd.state]; rfl
  exact own_pre (fun t k => castTop (ef_c2L2 m a0 a2) k) (gc2L2_0 hw c0 c1 a0 a2 Gv hL0 hL1 Bd hml hZ Gn s₁ (Stand.of_body Bd) e0 SZ0 (Fr.nil n0) (Keep.refl _ _) G0 Gp J0)
abbrev QcpL2 : Room := { frames := 3, cells := 2, slots := 6, locals := 64 }
/-! body 6, cpL2 -/
def RcpL2 (t : Unit) : Option Value := none
def KcpL2 (Z : State) (c0 c1 : Int32) (a0 : Addr) (h0 : Heap) (n0 : Nat) (t : Unit) (h : Heap) (L : List Loc) (rb : Addr) : Prop := Fr n0 L ∧ Keep h0 h [] ∧ h0.size ≤ rb ∧ own_Pv Z h rb (2 : Int32) [(own_by c0), (own_by c1)] .byte ∧ own_J Z h
def fcpL2_0 (c0 c1 : Int32) : Unit := ()
set_option maxRecDepth 65536 in
set_option maxHeartbeats 40000000 in
theorem gcpL2_0 (hw : HW aw Z) {h0 : Heap} {n0 : Nat} (c0 c1 : Int32) (a0 : Addr) (hL0 : ¬ (255 : Int32) < c0) (hL1 : ¬ (255 : Int32) < c1)
    (Bd : BodyLoose p l y25 (head1 (Jvm.Cond.code y25 Gi 6 (some (.array .byte)) :: ws) QcpL2) Gi 6 (some (.array .byte)) e s m #[(.ref a0), (.int 0), (.int 2)] below meth c s₁) (hml : c.maxLocals = 6) (hZ : Z.Warmed39 s.vm) (T0 : State) {locs : List Loc} (X0 : Stand p l e QcpL2 s m #[(.ref a0), (.int 0), (.int 2)] below meth c T0 locs 0 0) (e0 : T0.heap = h0) (SZ0 : n0 ≤ h0.size) (NF0 : Fr n0 locs) (KP0 : Keep h0 h0 []) (G0 : own_Pv Z h0 a0 (2 : Int32) [c0, c1] .char) (J0 : own_J Z h0) :
    own_GoE p e below s QcpL2.cells QcpL2.slots (KcpL2 Z c0 c1 a0 h0 n0 (fcpL2_0 c0 c1)) (T0.setTop (mkF m 0 #[rv a0, iv 0, iv 2, uu, uu, uu] [])) := by
  have hx := Bd.exec
  have hby := Bd.bytes
  have hown : s.vm.findClass cU = some m.cls := findClass_of_methodNamed Bd.named
  have hnm := (name_of_methodNamed Bd.named Bd.method).1
  unfold fcpL2_0
  refine opE T0 (mkF m 1 #[rv a0, iv 0, iv 2, uu, uu, uu] [(.int 2)]) (fun _ k => XS.iloadN X0.here hx rfl (hb hby d6_0) rfl k) ?_
  obtain ⟨T1, h1, k1, X1, e1, E1, A1, st'⟩ := newP X0 hx hZ (ow hw 16 rfl) e0 (g := (mkF m 1 #[rv a0, iv 0, iv 2, uu, uu, uu] [(.int 2)])) rfl (hb hby d6_1) rfl (by decide) (cap := 2) (by decide) (by decide) (by decide) (by decide)
  obtain ⟨b1, g1⟩ : ∃ z, z = h0.size := ⟨_, rfl⟩
  rw [← g1] at A1 st'
  have Gu : n0 ≤ b1 := Nat.le_trans SZ0 (Nat.le_of_eq g1.symm)
  have Go : a0 ≠ b1 := Nat.ne_of_lt (Nat.lt_of_lt_of_le G0.lt (Nat.le_of_eq g1.symm))
  have Gr : h0.size ≤ b1 := Nat.le_trans KP0.1 (Nat.le_of_eq g1.symm)
  have KP1 := KP0.ext E1
  have SZ1 : n0 ≤ h1.size := Nat.le_trans SZ0 E1.1
  have f2 := G0.ext E1
  have f3 := own_J.ext J0 E1
  have f4 : own_Pv Z h1 b1 (2 : Int32) [(0 : Int32), (0 : Int32)] .byte := ⟨_, (Arv.new A1 (by decide)).pad (pad_rep [] (.int 0) 2)⟩
  refine opE T1 (mkF m 9 #[rv a0, iv 0, iv 2, rv b1, uu, uu] [(.int 2), (.int 0), (.ref b1), (.int 0), (.ref a0)]) (fun _ k => st' _ (XS.astoreN X1.here hx rfl (hb hby d6_3) rfl rfl (l' := #[rv a0, iv 0, iv 2, rv b1, uu, uu]) rfl (XS.aloadN X1.here hx rfl (hb hby d6_4) rfl rfl (XS.iloadN X1.here hx rfl (hb hby d6_5) rfl (XS.aloadN X1.here hx rfl (hb hby d6_6) rfl rfl (XS.iconst X1.here hx rfl (hb hby d6_7) (XS.iloadN X1.here hx rfl (hb hby d6_8) rfl k))))))) ?_
  obtain ⟨_, _, ⟨T5, L5, k5, n5⟩, -, X5', ⟨Lc5, hQ5, l5, y5, z5⟩, st'⟩ := Jvm.LawKit.callS X1 hx (y := y24) hown (mvT hZ (ow hw 37 rfl)) (mvT hZ (ow hw 38 rfl)) (mvT hZ (ow hw 35 rfl)) (mvT hZ (ow hw 39 rfl)) (by decide) (backOf (W := 0) (rmc2L2 l Z aw hw [] c0 c1 a0 b1 h1 n0 SZ1 f2 f4 f3 Go hL0 hL1 Gu) hZ (ow hw 39 rfl) (ow hw 35 rfl) (by decide) (by decide)) (g := (mkF m 9 #[rv a0, iv 0, iv 2, rv b1, uu, uu] [(.int 2), (.int 0), (.ref b1), (.int 0), (.ref a0)])) rfl (by rw [hml]; rfl) (argsL := [(.ref a0), (.int 0), (.ref b1), (.int 0), (.int 2)]) (rest := []) (lenOf own_pd14 rfl) rfl (by show 2 * 0 + _ ≤ _; exact Nat.le_of_eq rfl) (hb hby d6_9) (fun _ _ => ⟨rfl, e1, (by decide : 1 + 0 ≤ _), (by decide : 2 + 0 ≤ _)⟩)
  dsimp only [Pt.U, Pt.locs, Pt.cells, Pt.slots] at X5' l5 y5 z5 st' hQ5
  subst l5 y5 z5
  obtain ⟨rfl, NFq5, KPq5, p5_0, p5_1⟩ := hQ5
  have X5 : Stand p l e QcpL2 s m #[(.ref a0), (.int 0), (.int 2)] below meth c T5 _ 1 2 := X5'
  have NF5 := Fr.app NF0 NFq5
  have SZ5 : n0 ≤ T5.heap.size := Nat.le_trans SZ1 KPq5.1
  have KP5 : Keep h0 T5.heap [] := KP1.trans KPq5 (allS (Or.inr Gr) all0)
  have f6 := f2.keep KPq5 (ninS Go nin0)
  refine opE T5 (mkF m 17 #[rv a0, iv 0, iv 2, rv b1, iv 2, uu] [(.int 2), (.int 2)]) (fun _ k => st' _ (XS.istore X5.here hx rfl (hb hby d6_12) rfl (l' := #[rv a0, iv 0, iv 2, rv b1, iv 2, uu]) rfl (XS.iload X5.here hx rfl (hb hby d6_14) rfl (XS.iloadN X5.here hx rfl (hb hby d6_16) rfl k)))) ?_
  have hd7 : (2 : Int32) = (2 : Int32) := by decide
  refine opE T5 (mkF m 58 #[rv a0, iv 0, iv 2, rv b1, iv 2, uu] [(.ref b1)]) (fun _ k => XS.icmpYes X5.here hx rfl (pc0 := 17) (pc' := 57) rfl (hb hby d6_17) rfl (teq hd7).1 (by decide) (by decide) (XS.aloadN X5.here hx rfl (hb hby d6_57) rfl rfl k)) ?_
  exact own_retE (b := b1) X5 hx Bd.notSynchronized Bd.returns rfl (hb hby d6_58) ⟨NF5, KP5, Gr, p5_0, p5_1⟩ (by decide) (by decide)
theorem ef_cpL2 (m : MethodId) (a0 : Addr) : entryFrame m #[(.ref a0), (.int 0), (.int 2)] 6 = mkF m 0 #[rv a0, iv 0, iv 2, uu, uu, uu] [] := by first | (simp [entryFrame, mkF, argsToLocals, Value.category]; done) | rfl
set_option maxRecDepth 65536 in
set_option maxHeartbeats 40000000 in
theorem rmcpL2 (l : Launch) (Z : State) (aw : Array Value) (hw : HW aw Z) (ws : List Jvm.Cond) (c0 c1 : Int32) (a0 : Addr) (h0 : Heap) (n0 : Nat) (SZ0 : n0 ≤ h0.size) (G0 : own_Pv Z h0 a0 (2 : Int32) [c0, c1] .char) (J0 : own_J Z h0) (hL0 : ¬ (255 : Int32) < c0) (hL1 : ¬ (255 : Int32) < c1) :
    MetFree l y25 (head1 (Jvm.Cond.code y25 Gi 6 (some (.array .byte)) :: ws) QcpL2) (fun a U => a = #[(.ref a0), (.int 0), (.int 2)] ∧ Z.Warmed39 U.vm ∧ U.heap = h0) (fun _ _ _ _ _ => True) (fun _ U o U' => ∃ v L, o = .returned v ∧ own_QE (KcpL2 Z c0 c1 a0 h0 n0 (fcpL2_0 c0 c1)) v U'.heap L ∧ FrameEnd U o U' L QcpL2.cells QcpL2.slots) := by
  refine MetFree.of_bodySF (plainFor_of_name own_pn4) hisR ?_
  intro p e s m args below meth c s₁ Bd hml0 hP hK
  obtain ⟨rfl, hZ, hh⟩ := hP
  have hml : c.maxLocals = 6 := hml0
  have e0 : s₁.heap = h0 := by rw [← hh, Bd.state]; rfl
  exact own_preE (fun t k => castTop (ef_cpL2 m a0) k) (gcpL2_0 hw c0 c1 a0 hL0 hL1 Bd hml hZ s₁ (Stand.of_body Bd) e0 SZ0 (Fr.nil n0) (Keep.refl _ _) G0 J0)
abbrev Qc2U20 : Room := { frames := 0, cells := 0, slots := 0, locals := 0 }
/-! body 7, c2U20 -/
def Rc2U20 (t : Int32) : Option Value := some (.int t)
def Kc2U20 (Z : State) (c0 c1 : Int32) (a0 a2 : Addr) (h0 : Heap) (n0 : Nat) (t : Int32) (h : Heap) (L : List Loc) : Prop := Fr n0 L ∧ Keep h0 h [a2] ∧ own_J Z h
def fc2U20_0 (c0 c1 : Int32) : Int32 := (0 : Int32)
set_option maxRecDepth 65536 in
set_option maxHeartbeats 40000000 in
theorem gc2U20_0 (hw : HW aw Z) {h0 : Heap} {n0 : Nat} (c0 c1 : Int32) (a0 a2 : Addr) (hB : (255 : Int32) < c0)
    (Bd : BodyLoose p l y24 (head1 (Jvm.Cond.code y24 Gj 7 (some .int) :: ws) Qc2U20) Gj 7 (some .int) e s m #[(.ref a0), (.int 0), (.ref a2), (.int 0), (.int 2)] below meth c s₁) (hml : c.maxLocals = 7) (hZ : Z.Warmed39 s.vm) (Gn : n0 ≤ a2) (T0 : State) {locs : List Loc} (X0 : Stand p l e Qc2U20 s m #[(.ref a0), (.int 0), (.ref a2), (.int 0), (.int 2)] below meth c T0 locs 0 0) (e0 : T0.heap = h0) (SZ0 : n0 ≤ h0.size) (NF0 : Fr n0 locs) (KP0 : Keep h0 h0 [a2]) (G0 : own_Pv Z h0 a0 (2 : Int32) [c0, c1] .char) (Gp : own_Pv Z h0 a2 (2 : Int32) [(0 : Int32), (0 : Int32)] .byte) (J0 : own_J Z h0) :
    own_Go p e below s Qc2U20.cells Qc2U20.slots (Rc2U20 (fc2U20_0 c0 c1)) (Kc2U20 Z c0 c1 a0 a2 h0 n0 (fc2U20_0 c0 c1)) (T0.setTop (mkF m 0 #[rv a0, iv 0, rv a2, iv 0, iv 2, uu, uu] [])) := by
  have hx := Bd.exec
  have hby := Bd.bytes
  have hown : s.vm.findClass cU = some m.cls := findClass_of_methodNamed Bd.named
  have hnm := (name_of_methodNamed Bd.named Bd.method).1
  unfold fc2U20_0
  refine op T0 (mkF m 7 #[rv a0, iv 0, rv a2, iv 0, iv 2, iv 0, uu] [(.int 2), (.int 0)]) (fun _ k => XS.iconst X0.here hx rfl (hb hby d7_0) (XS.istore X0.here hx rfl (hb hby d7_1) rfl (l' := #[rv a0, iv 0, rv a2, iv 0, iv 2, iv 0, uu]) rfl (XS.iload X0.here hx rfl (hb hby d7_3) rfl (XS.iload X0.here hx rfl (hb hby d7_5) rfl k)))) ?_
  have hd1 : (0 : Int32) < (2 : Int32) := by decide
  refine op T0 (mkF m 12 #[rv a0, iv 0, rv a2, iv 0, iv 2, iv 0, uu] [(.int 0), (.ref a0)]) (fun _ k => XS.icmpNo X0.here hx rfl (hb hby d7_7) rfl (tlt hd1).2.1 (XS.aloadN X0.here hx rfl (hb hby d7_10) rfl rfl (XS.iloadN X0.here hx rfl (hb hby d7_11) rfl k))) ?_
  obtain ⟨k2, cl2, Ar2, q2, S2, N2, H2, G2⟩ := id G0
  have hin2 : ¬ ((0 : Int32) < 0 ∨ cl2.slots.size ≤ ((0 : Int32)).toNatClampNeg) := inb_of S2 ⟨by decide, by decide⟩
  refine op T0 (mkF m 13 #[rv a0, iv 0, rv a2, iv 0, iv 2, iv 0, uu] [(.int c0)]) (fun t k => X0.caload hx (j := (0 : Int32)) (v := (.int c0)) (by rw [e0]; exact Ar2.1) (State.isArrayOf_alike hZ.alike Ar2.2.1) Ar2.2.2 hin2 (H2.at hin2 rfl) (g := (mkF m 12 #[rv a0, iv 0, rv a2, iv 0, iv 2, iv 0, uu] [(.int 0), (.ref a0)])) rfl rfl (hb hby d7_12) t k) ?_
  refine op T0 (mkF m 20 #[rv a0, iv 0, rv a2, iv 0, iv 2, iv 0, iv c0] [(.int 255), (.int c0)]) (fun _ k => XS.istore X0.here hx rfl (hb hby d7_13) rfl (l' := #[rv a0, iv 0, rv a2, iv 0, iv 2, iv 0, iv c0]) rfl (XS.iload X0.here hx rfl (hb hby d7_15) rfl (XS.sipush X0.here hx rfl (hb hby d7_17) k))) ?_
  have hc20 : (255 : Int32) < c0 := hB
  refine op T0 (mkF m 25 #[rv a0, iv 0, rv a2, iv 0, iv 2, iv 0, iv c0] [(.int 0)]) (fun _ k => XS.icmpNo X0.here hx rfl (hb hby d7_20) rfl (tlt hc20).2.2.2 (XS.iload X0.here hx rfl (hb hby d7_23) rfl k)) ?_
  exact own_ret (w := (.int 0)) X0 hx Bd.notSynchronized Bd.returns rfl (Or.inl ⟨rfl, by simp, _, rfl⟩) (hb hby d7_25) (by rw [e0]; exact ⟨NF0, KP0, J0⟩) (by decide) (by decide)
theorem ef_c2U20 (m : MethodId) (a0 a2 : Addr) : entryFrame m #[(.ref a0), (.int 0), (.ref a2), (.int 0), (.int 2)] 7 = mkF m 0 #[rv a0, iv 0, rv a2, iv 0, iv 2, uu, uu] [] := by first | (simp [entryFrame, mkF, argsToLocals, Value.category]; done) | rfl
set_option maxRecDepth 65536 in
set_option maxHeartbeats 40000000 in
theorem rmc2U20 (l : Launch) (Z : State) (aw : Array Value) (hw : HW aw Z) (ws : List Jvm.Cond) (c0 c1 : Int32) (a0 a2 : Addr) (h0 : Heap) (n0 : Nat) (SZ0 : n0 ≤ h0.size) (G0 : own_Pv Z h0 a0 (2 : Int32) [c0, c1] .char) (Gp : own_Pv Z h0 a2 (2 : Int32) [(0 : Int32), (0 : Int32)] .byte) (J0 : own_J Z h0) (hB : (255 : Int32) < c0) (Gn : n0 ≤ a2) :
    MetFree l y24 (head1 (Jvm.Cond.code y24 Gj 7 (some .int) :: ws) Qc2U20) (fun a U => a = #[(.ref a0), (.int 0), (.ref a2), (.int 0), (.int 2)] ∧ Z.Warmed39 U.vm ∧ U.heap = h0) (fun _ _ _ _ _ => True) (fun _ U o U' => ∃ v L, o = .returned v ∧ own_Q (Rc2U20 (fc2U20_0 c0 c1)) (Kc2U20 Z c0 c1 a0 a2 h0 n0 (fc2U20_0 c0 c1)) v U'.heap L ∧ FrameEnd U o U' L Qc2U20.cells Qc2U20.slots) := by
  refine MetFree.of_bodySF (plainFor_of_name own_pn4) hisR ?_
  intro p e s m args below meth c s₁ Bd hml0 hP hK
  obtain ⟨rfl, hZ, hh⟩ := hP
  have hml : c.maxLocals = 7 := hml0
  have e0 : s₁.heap = h0 := by rw [← hh, Bd.state]; rfl
  exact own_pre (fun t k => castTop (ef_c2U20 m a0 a2) k) (gc2U20_0 hw c0 c1 a0 a2 hB Bd hml hZ Gn s₁ (Stand.of_body Bd) e0 SZ0 (Fr.nil n0) (Keep.refl _ _) G0 Gp J0)
abbrev QcpU20 : Room := { frames := 3, cells := 2, slots := 6, locals := 64 }
/-! body 6, cpU20 -/
def RcpU20 (t : Unit) : Option Value := none
def KcpU20 (Z : State) (c0 c1 : Int32) (a0 : Addr) (h0 : Heap) (n0 : Nat) (t : Unit) (h : Heap) (L : List Loc) (rb : Addr) : Prop := Fr n0 L ∧ Keep h0 h [] ∧ h0.size ≤ rb ∧ own_Pv Z h rb (4 : Int32) [(own_lo c0), (own_hi c0), (own_lo c1), (own_hi c1)] .byte ∧ own_J Z h
def fcpU20_0 (c0 c1 : Int32) : Unit := ()
set_option maxRecDepth 65536 in
set_option maxHeartbeats 40000000 in
theorem gcpU20_0 (hw : HW aw Z) {h0 : Heap} {n0 : Nat} (c0 c1 : Int32) (a0 : Addr) (hB : (255 : Int32) < c0) (hC : own_ch c0)
    (Bd : BodyLoose p l y25 (head1 (Jvm.Cond.code y25 Gi 6 (some (.array .byte)) :: ws) QcpU20) Gi 6 (some (.array .byte)) e s m #[(.ref a0), (.int 0), (.int 2)] below meth c s₁) (hml : c.maxLocals = 6) (hZ : Z.Warmed39 s.vm) (T0 : State) {locs : List Loc} (X0 : Stand p l e QcpU20 s m #[(.ref a0), (.int 0), (.int 2)] below meth c T0 locs 0 0) (e0 : T0.heap = h0) (SZ0 : n0 ≤ h0.size) (NF0 : Fr n0 locs) (KP0 : Keep h0 h0 []) (G0 : own_Pv Z h0 a0 (2 : Int32) [c0, c1] .char) (J0 : own_J Z h0) :
    own_GoE p e below s QcpU20.cells QcpU20.slots (KcpU20 Z c0 c1 a0 h0 n0 (fcpU20_0 c0 c1)) (T0.setTop (mkF m 0 #[rv a0, iv 0, iv 2, uu, uu, uu] [])) := by
  have hx := Bd.exec
  have hby := Bd.bytes
  have hown : s.vm.findClass cU = some m.cls := findClass_of_methodNamed Bd.named
  have hnm := (name_of_methodNamed Bd.named Bd.method).1
  unfold fcpU20_0
  refine opE T0 (mkF m 1 #[rv a0, iv 0, iv 2, uu, uu, uu] [(.int 2)]) (fun _ k => XS.iloadN X0.here hx rfl (hb hby d6_0) rfl k) ?_
  obtain ⟨T1, h1, k1, X1, e1, E1, A1, st'⟩ := newP X0 hx hZ (ow hw 16 rfl) e0 (g := (mkF m 1 #[rv a0, iv 0, iv 2, uu, uu, uu] [(.int 2)])) rfl (hb hby d6_1) rfl (by decide) (cap := 2) (by decide) (by decide) (by decide) (by decide)
  obtain ⟨b1, g1⟩ : ∃ z, z = h0.size := ⟨_, rfl⟩
  rw [← g1] at A1 st'
  have Gu : n0 ≤ b1 := Nat.le_trans SZ0 (Nat.le_of_eq g1.symm)
  have Go : a0 ≠ b1 := Nat.ne_of_lt (Nat.lt_of_lt_of_le G0.lt (Nat.le_of_eq g1.symm))
  have Gr : h0.size ≤ b1 := Nat.le_trans KP0.1 (Nat.le_of_eq g1.symm)
  have KP1 := KP0.ext E1
  have SZ1 : n0 ≤ h1.size := Nat.le_trans SZ0 E1.1
  have f2 := G0.ext E1
  have f3 := own_J.ext J0 E1
  have f4 : own_Pv Z h1 b1 (2 : Int32) [(0 : Int32), (0 : Int32)] .byte := ⟨_, (Arv.new A1 (by decide)).pad (pad_rep [] (.int 0) 2)⟩
  refine opE T1 (mkF m 9 #[rv a0, iv 0, iv 2, rv b1, uu, uu] [(.int 2), (.int 0), (.ref b1), (.int 0), (.ref a0)]) (fun _ k => st' _ (XS.astoreN X1.here hx rfl (hb hby d6_3) rfl rfl (l' := #[rv a0, iv 0, iv 2, rv b1, uu, uu]) rfl (XS.aloadN X1.here hx rfl (hb hby d6_4) rfl rfl (XS.iloadN X1.here hx rfl (hb hby d6_5) rfl (XS.aloadN X1.here hx rfl (hb hby d6_6) rfl rfl (XS.iconst X1.here hx rfl (hb hby d6_7) (XS.iloadN X1.here hx rfl (hb hby d6_8) rfl k))))))) ?_
  obtain ⟨_, _, ⟨T5, L5, k5, n5⟩, -, X5', ⟨Lc5, hQ5, l5, y5, z5⟩, st'⟩ := Jvm.LawKit.callS X1 hx (y := y24) hown (mvT hZ (ow hw 37 rfl)) (mvT hZ (ow hw 38 rfl)) (mvT hZ (ow hw 35 rfl)) (mvT hZ (ow hw 39 rfl)) (by decide) (backOf (W := 0) (rmc2U20 l Z aw hw [] c0 c1 a0 b1 h1 n0 SZ1 f2 f4 f3 hB Gu) hZ (ow hw 39 rfl) (ow hw 35 rfl) (by decide) (by decide)) (g := (mkF m 9 #[rv a0, iv 0, iv 2, rv b1, uu, uu] [(.int 2), (.int 0), (.ref b1), (.int 0), (.ref a0)])) rfl (by rw [hml]; rfl) (argsL := [(.ref a0), (.int 0), (.ref b1), (.int 0), (.int 2)]) (rest := []) (lenOf own_pd14 rfl) rfl (by show 2 * 0 + _ ≤ _; exact Nat.le_of_eq rfl) (hb hby d6_9) (fun _ _ => ⟨rfl, e1, (by decide : 1 + 0 ≤ _), (by decide : 2 + 0 ≤ _)⟩)
  dsimp only [Pt.U, Pt.locs, Pt.cells, Pt.slots] at X5' l5 y5 z5 st' hQ5
  subst l5 y5 z5
  obtain ⟨rfl, NFq5, KPq5, p5_0⟩ := hQ5
  have X5 : Stand p l e QcpU20 s m #[(.ref a0), (.int 0), (.int 2)] below meth c T5 _ 1 2 := X5'
  have NF5 := Fr.app NF0 NFq5
  have SZ5 : n0 ≤ T5.heap.size := Nat.le_trans SZ1 KPq5.1
  have KP5 : Keep h0 T5.heap [] := KP1.trans KPq5 (allS (Or.inr Gr) all0)
  have f6 := f2.keep KPq5 (ninS Go nin0)
  refine opE T5 (mkF m 17 #[rv a0, iv 0, iv 2, rv b1, iv 0, uu] [(.int 2), (.int 0)]) (fun _ k => st' _ (XS.istore X5.here hx rfl (hb hby d6_12) rfl (l' := #[rv a0, iv 0, iv 2, rv b1, iv 0, uu]) rfl (XS.iload X5.here hx rfl (hb hby d6_14) rfl (XS.iloadN X5.here hx rfl (hb hby d6_16) rfl k)))) ?_
  have hd7 : ¬ ((0 : Int32) = (2 : Int32)) := by decide
  refine opE T5 (mkF m 23 #[rv a0, iv 0, iv 2, rv b1, iv 0, uu] [(.int 2), (.int 0), (.ref a0)]) (fun _ k => XS.icmpNo X5.here hx rfl (hb hby d6_17) rfl (feq hd7).1 (XS.aloadN X5.here hx rfl (hb hby d6_20) rfl rfl (XS.iloadN X5.here hx rfl (hb hby d6_21) rfl (XS.iloadN X5.here hx rfl (hb hby d6_22) rfl k)))) ?_
  obtain ⟨_, _, ⟨T8, L8, k8, n8⟩, -, X8', ⟨Lc8, hQ8, l8, y8, z8⟩, st'⟩ := Jvm.LawKit.callS X5 hx (y := y23) hown (mvT hZ (ow hw 107 rfl)) (mvT hZ (ow hw 108 rfl)) (mvT hZ (ow hw 35 rfl)) (mvT hZ (ow hw 109 rfl)) (by decide) (backOf (W := 0) (rmtb2 l Z aw hw [] c0 c1 a0 T5.heap n0 SZ5 f6 p5_0) hZ (ow hw 109 rfl) (ow hw 35 rfl) (by decide) (by decide)) (g := (mkF m 23 #[rv a0, iv 0, iv 2, rv b1, iv 0, uu] [(.int 2), (.int 0), (.ref a0)])) rfl (by rw [hml]; rfl) (argsL := [(.ref a0), (.int 0), (.int 2)]) (rest := []) (lenOf own_pd15 rfl) rfl (by show 2 * 0 + _ ≤ _; exact Nat.le_of_eq rfl) (hb hby d6_23) (fun _ _ => ⟨rfl, (rfl : T5.heap = T5.heap), (by decide : 1 + 1 ≤ _), (by decide : 2 + 4 ≤ _)⟩)
  dsimp only [Pt.U, Pt.locs, Pt.cells, Pt.slots] at X8' l8 y8 z8 st' hQ8
  subst l8 y8 z8
  obtain ⟨rfl, NFq8, KPq8, p8_0, p8_1⟩ := hQ8
  have X8 : Stand p l e QcpU20 s m #[(.ref a0), (.int 0), (.int 2)] below meth c T8 _ 2 6 := X8'
  have NF8 := Fr.app NF5 NFq8
  have SZ8 : n0 ≤ T8.heap.size := Nat.le_trans SZ5 KPq8.1
  have KP8 : Keep h0 T8.heap [] := KP5.trans KPq8 all0
  obtain ⟨b8, g8⟩ : ∃ z, z = T5.heap.size := ⟨_, rfl⟩
  simp only [Rtb2, ← g8] at st' p8_0
  have g_b8 : n0 ≤ b8 := Nat.le_trans SZ5 (Nat.le_of_eq g8.symm)
  have Hk : h0.size ≤ b8 := Nat.le_trans KP5.1 (Nat.le_of_eq g8.symm)
  have Hw : a0 ≠ b8 := Nat.ne_of_lt (Nat.lt_of_lt_of_le f6.lt (Nat.le_of_eq g8.symm))
  have f9 := f6.keep KPq8 nin0
  have f10 := own_J.keep p5_0 KPq8
  refine opE T8 (mkF m 32 #[rv a0, iv 0, iv 2, rv b1, iv 0, rv b8] [(.int 0), (.ref b8)]) (fun _ k => st' _ (XS.astore X8.here hx rfl (hb hby d6_26) rfl rfl (l' := #[rv a0, iv 0, iv 2, rv b1, iv 0, rv b8]) rfl (XS.aload X8.here hx rfl (hb hby d6_28) rfl rfl (XS.iload X8.here hx rfl (hb hby d6_30) rfl k)))) ?_
  obtain ⟨_, _, ⟨T11, L11, k11, n11⟩, -, X11', ⟨Lc11, hQ11, l11, y11, z11⟩, st'⟩ := Jvm.LawKit.callS X8 hx (y := y3) hown (mvT hZ (ow hw 123 rfl)) (mvT hZ (ow hw 124 rfl)) (mvT hZ (ow hw 35 rfl)) (mvT hZ (ow hw 125 rfl)) (by decide) (backOf (W := 0) (rmgc l Z aw hw [] (0 : Int32) (4 : Int32) (own_lo c0) (own_hi c0) b8 T8.heap n0 SZ8 (own_Pv.be p8_0 (by intro x hx; simp only [List.mem_cons, List.not_mem_nil, or_false] at hx; rcases hx with rfl | rfl <;> rfl)) p8_1 (by decide) (by decide) (by decide) (by decide)) hZ (ow hw 125 rfl) (ow hw 35 rfl) (by decide) (by decide)) (g := (mkF m 32 #[rv a0, iv 0, iv 2, rv b1, iv 0, rv b8] [(.int 0), (.ref b8)])) rfl (by rw [hml]; rfl) (argsL := [(.ref b8), (.int 0)]) (rest := []) (lenOf own_pd4 rfl) rfl (by show 2 * 0 + _ ≤ _; exact Nat.le_of_eq rfl) (hb hby d6_32) (fun _ _ => ⟨rfl, (rfl : T8.heap = T8.heap), (by decide : 2 + 0 ≤ _), (by decide : 6 + 0 ≤ _)⟩)
  dsimp only [Pt.U, Pt.locs, Pt.cells, Pt.slots] at X11' l11 y11 z11 st' hQ11
  subst l11 y11 z11
  obtain ⟨rfl, rfl, e11⟩ := hQ11
  have X11 : Stand p l e QcpU20 s m #[(.ref a0), (.int 0), (.int 2)] below meth c T11 _ 2 6 := own_locs X11'
  refine opE T11 (mkF m 38 #[rv a0, iv 0, iv 2, rv b1, iv 0, rv b8] [(.int 255), (.int (fgc_0 (0 : Int32) (4 : Int32) (own_lo c0) (own_hi c0)))]) (fun _ k => st' _ (XS.sipush X11.here hx rfl (hb hby d6_35) k)) ?_
  have hc38 : (255 : Int32) < (fgc_0 (0 : Int32) (4 : Int32) (own_lo c0) (own_hi c0)) := (by rw [own_gcE _ _ hC]; exact hB)
  refine opE T11 (mkF m 56 #[rv a0, iv 0, iv 2, rv b1, iv 0, rv b8] [(.ref b8)]) (fun _ k => XS.icmpYes X11.here hx rfl (pc0 := 38) (pc' := 54) rfl (hb hby d6_38) rfl (tlt hc38).2.2.1 (by decide) (by decide) (XS.aload X11.here hx rfl (hb hby d6_54) rfl rfl k)) ?_
  exact own_retE (b := b8) X11 hx Bd.notSynchronized Bd.returns rfl (hb hby d6_56) (by rw [e11]; exact ⟨NF8, KP8, Hk, p8_0, p8_1⟩) (by decide) (by decide)
theorem ef_cpU20 (m : MethodId) (a0 : Addr) : entryFrame m #[(.ref a0), (.int 0), (.int 2)] 6 = mkF m 0 #[rv a0, iv 0, iv 2, uu, uu, uu] [] := by first | (simp [entryFrame, mkF, argsToLocals, Value.category]; done) | rfl
set_option maxRecDepth 65536 in
set_option maxHeartbeats 40000000 in
theorem rmcpU20 (l : Launch) (Z : State) (aw : Array Value) (hw : HW aw Z) (ws : List Jvm.Cond) (c0 c1 : Int32) (a0 : Addr) (h0 : Heap) (n0 : Nat) (SZ0 : n0 ≤ h0.size) (G0 : own_Pv Z h0 a0 (2 : Int32) [c0, c1] .char) (J0 : own_J Z h0) (hB : (255 : Int32) < c0) (hC : own_ch c0) :
    MetFree l y25 (head1 (Jvm.Cond.code y25 Gi 6 (some (.array .byte)) :: ws) QcpU20) (fun a U => a = #[(.ref a0), (.int 0), (.int 2)] ∧ Z.Warmed39 U.vm ∧ U.heap = h0) (fun _ _ _ _ _ => True) (fun _ U o U' => ∃ v L, o = .returned v ∧ own_QE (KcpU20 Z c0 c1 a0 h0 n0 (fcpU20_0 c0 c1)) v U'.heap L ∧ FrameEnd U o U' L QcpU20.cells QcpU20.slots) := by
  refine MetFree.of_bodySF (plainFor_of_name own_pn4) hisR ?_
  intro p e s m args below meth c s₁ Bd hml0 hP hK
  obtain ⟨rfl, hZ, hh⟩ := hP
  have hml : c.maxLocals = 6 := hml0
  have e0 : s₁.heap = h0 := by rw [← hh, Bd.state]; rfl
  exact own_preE (fun t k => castTop (ef_cpU20 m a0) k) (gcpU20_0 hw c0 c1 a0 hB hC Bd hml hZ s₁ (Stand.of_body Bd) e0 SZ0 (Fr.nil n0) (Keep.refl _ _) G0 J0)
abbrev Qc2U21 : Room := { frames := 0, cells := 0, slots := 0, locals := 0 }
/-! body 7, c2U21 -/
def Rc2U21 (t : Int32) : Option Value := some (.int t)
def Kc2U21 (Z : State) (c0 c1 : Int32) (a0 a2 : Addr) (h0 : Heap) (n0 : Nat) (t : Int32) (h : Heap) (L : List Loc) : Prop := Fr n0 L ∧ Keep h0 h [a2] ∧ own_J Z h
def fc2U21_0 (c0 c1 : Int32) : Int32 := (1 : Int32)
set_option maxRecDepth 65536 in
set_option maxHeartbeats 40000000 in
theorem gc2U21_0 (hw : HW aw Z) {h0 : Heap} {n0 : Nat} (c0 c1 : Int32) (a0 a2 : Addr) (Gv : a0 ≠ a2) (hL0 : ¬ (255 : Int32) < c0) (hB : (255 : Int32) < c1)
    (Bd : BodyLoose p l y24 (head1 (Jvm.Cond.code y24 Gj 7 (some .int) :: ws) Qc2U21) Gj 7 (some .int) e s m #[(.ref a0), (.int 0), (.ref a2), (.int 0), (.int 2)] below meth c s₁) (hml : c.maxLocals = 7) (hZ : Z.Warmed39 s.vm) (Gn : n0 ≤ a2) (T0 : State) {locs : List Loc} (X0 : Stand p l e Qc2U21 s m #[(.ref a0), (.int 0), (.ref a2), (.int 0), (.int 2)] below meth c T0 locs 0 0) (e0 : T0.heap = h0) (SZ0 : n0 ≤ h0.size) (NF0 : Fr n0 locs) (KP0 : Keep h0 h0 [a2]) (G0 : own_Pv Z h0 a0 (2 : Int32) [c0, c1] .char) (Gp : own_Pv Z h0 a2 (2 : Int32) [(0 : Int32), (0 : Int32)] .byte) (J0 : own_J Z h0) :
    own_Go p e below s Qc2U21.cells Qc2U21.slots (Rc2U21 (fc2U21_0 c0 c1)) (Kc2U21 Z c0 c1 a0 a2 h0 n0 (fc2U21_0 c0 c1)) (T0.setTop (mkF m 0 #[rv a0, iv 0, rv a2, iv 0, iv 2, uu, uu] [])) := by
  have hx := Bd.exec
  have hby := Bd.bytes
  have hown : s.vm.findClass cU = some m.cls := findClass_of_methodNamed Bd.named
  have hnm := (name_of_methodNamed Bd.named Bd.method).1
  unfold fc2U21_0
  refine op T0 (mkF m 7 #[rv a0, iv 0, rv a2, iv 0, iv 2, iv 0, uu] [(.int 2), (.int 0)]) (fun _ k => XS.iconst X0.here hx rfl (hb hby d7_0) (XS.istore X0.here hx rfl (hb hby d7_1) rfl (l' := #[rv a0, iv 0, rv a2, iv 0, iv 2, iv 0, uu]) rfl (XS.iload X0.here hx rfl (hb hby d7_3) rfl (XS.iload X0.here hx rfl (hb hby d7_5) rfl k)))) ?_
  have hd1 : (0 : Int32) < (2 : Int32) := by decide
  refine op T0 (mkF m 12 #[rv a0, iv 0, rv a2, iv 0, iv 2, iv 0, uu] [(.int 0), (.ref a0)]) (fun _ k => XS.icmpNo X0.here hx rfl (hb hby d7_7) rfl (tlt hd1).2.1 (XS.aloadN X0.here hx rfl (hb hby d7_10) rfl rfl (XS.iloadN X0.here hx rfl (hb hby d7_11) rfl k))) ?_
  obtain ⟨k2, cl2, Ar2, q2, S2, N2, H2, G2⟩ := id G0
  have hin2 : ¬ ((0 : Int32) < 0 ∨ cl2.slots.size ≤ ((0 : Int32)).toNatClampNeg) := inb_of S2 ⟨by decide, by decide⟩
  refine op T0 (mkF m 13 #[rv a0, iv 0, rv a2, iv 0, iv 2, iv 0, uu] [(.int c0)]) (fun t k => X0.caload hx (j := (0 : Int32)) (v := (.int c0)) (by rw [e0]; exact Ar2.1) (State.isArrayOf_alike hZ.alike Ar2.2.1) Ar2.2.2 hin2 (H2.at hin2 rfl) (g := (mkF m 12 #[rv a0, iv 0, rv a2, iv 0, iv 2, iv 0, uu] [(.int 0), (.ref a0)])) rfl rfl (hb hby d7_12) t k) ?_
  refine op T0 (mkF m 20 #[rv a0, iv 0, rv a2, iv 0, iv 2, iv 0, iv c0] [(.int 255), (.int c0)]) (fun _ k => XS.istore X0.here hx rfl (hb hby d7_13) rfl (l' := #[rv a0, iv 0, rv a2, iv 0, iv 2, iv 0, iv c0]) rfl (XS.iload X0.here hx rfl (hb hby d7_15) rfl (XS.sipush X0.here hx rfl (hb hby d7_17) k))) ?_
  have hc20 : ¬ ((255 : Int32) < c0) := hL0
  refine op T0 (mkF m 31 #[rv a0, iv 0, rv a2, iv 0, iv 2, iv 0, iv c0] [(.int (c0.toInt8.toInt32)), (.int 0), (.ref a2)]) (fun _ k => XS.icmpYes X0.here hx rfl (pc0 := 20) (pc' := 26) rfl (hb hby d7_20) rfl (flt hc20).2.2.2 (by decide) (by decide) (XS.aloadN X0.here hx rfl (hb hby d7_26) rfl rfl (XS.iloadN X0.here hx rfl (hb hby d7_27) rfl (XS.iload X0.here hx rfl (hb hby d7_28) rfl (XS.i2b X0.here hx rfl (hb hby d7_30) rfl k))))) ?_
  obtain ⟨k3, cl3, Ar3, q3, S3, N3, H3, G3⟩ := id Gp
  have hin3 : ¬ ((0 : Int32) < 0 ∨ cl3.slots.size ≤ ((0 : Int32)).toNatClampNeg) := inb_of S3 ⟨by decide, by decide⟩
  obtain ⟨T3, h3, X3, e3, W3, st'⟩ := stB X0 hx hZ e0 Ar3 (j := (0 : Int32)) hin3 (g := (mkF m 31 #[rv a0, iv 0, rv a2, iv 0, iv 2, iv 0, iv c0] [(.int (c0.toInt8.toInt32)), (.int 0), (.ref a2)])) rfl rfl (hb hby d7_31)
  have f4 : own_Pv Z h3 a2 (2 : Int32) [((c0.toInt8.toInt32).toInt8.toInt32), (0 : Int32)] .byte := ⟨_, Arv.set Ar3 q3 S3 N3 H3 G3 (fits_nar_byte _) W3 0 rfl (Nat.le_of_ble_eq_true rfl)⟩
  have f5 := G0.other W3 Gv
  have f6 := own_J.wr J0 W3
  have NF3 := Fr.snoc X3 NF0 Gn
  have SZ3 : n0 ≤ h3.size := (Nat.le_trans SZ0 (Keep.of_wr W3).1)
  have KP3 : Keep h0 h3 [a2] := KP0.wr W3 (Or.inl (List.mem_of_getElem? (i := 0) rfl))
  refine op T3 (mkF m 7 #[rv a0, iv 1, rv a2, iv 1, iv 2, iv 1, iv c0] [(.int 2), (.int 1)]) (fun _ k => st' _ (XS.iinc X3.here hx rfl (hb hby d7_32) rfl (l' := #[rv a0, iv 1, rv a2, iv 0, iv 2, iv 0, iv c0]) rfl (XS.iinc X3.here hx rfl (hb hby d7_35) rfl (l' := #[rv a0, iv 1, rv a2, iv 1, iv 2, iv 0, iv c0]) rfl (XS.iinc X3.here hx rfl (hb hby d7_38) rfl (l' := #[rv a0, iv 1, rv a2, iv 1, iv 2, iv 1, iv c0]) rfl (XS.goto X3.here hx rfl (pc0 := 41) (pc' := 3) rfl (hb hby d7_41) (by decide) (by decide) (XS.iload X3.here hx rfl (hb hby d7_3) rfl (XS.iload X3.here hx rfl (hb hby d7_5) rfl k))))))) ?_
  have hd7 : (1 : Int32) < (2 : Int32) := by decide
  refine op T3 (mkF m 12 #[rv a0, iv 1, rv a2, iv 1, iv 2, iv 1, iv c0] [(.int 1), (.ref a0)]) (fun _ k => XS.icmpNo X3.here hx rfl (hb hby d7_7) rfl (tlt hd7).2.1 (XS.aloadN X3.here hx rfl (hb hby d7_10) rfl rfl (XS.iloadN X3.here hx rfl (hb hby d7_11) rfl k))) ?_
  obtain ⟨k8, cl8, Ar8, q8, S8, N8, H8, G8⟩ := id f5
  have hin8 : ¬ ((1 : Int32) < 0 ∨ cl8.slots.size ≤ ((1 : Int32)).toNatClampNeg) := inb_of S8 ⟨by decide, by decide⟩
  refine op T3 (mkF m 13 #[rv a0, iv 1, rv a2, iv 1, iv 2, iv 1, iv c0] [(.int c1)]) (fun t k => X3.caload hx (j := (1 : Int32)) (v := (.int c1)) (by rw [e3]; exact Ar8.1) (State.isArrayOf_alike hZ.alike Ar8.2.1) Ar8.2.2 hin8 (H8.at hin8 rfl) (g := (mkF m 12 #[rv a0, iv 1, rv a2, iv 1, iv 2, iv 1, iv c0] [(.int 1), (.ref a0)])) rfl rfl (hb hby d7_12) t k) ?_
  refine op T3 (mkF m 20 #[rv a0, iv 1, rv a2, iv 1, iv 2, iv 1, iv c1] [(.int 255), (.int c1)]) (fun _ k => XS.istore X3.here hx rfl (hb hby d7_13) rfl (l' := #[rv a0, iv 1, rv a2, iv 1, iv 2, iv 1, iv c1]) rfl (XS.iload X3.here hx rfl (hb hby d7_15) rfl (XS.sipush X3.here hx rfl (hb hby d7_17) k))) ?_
  have hc20 : (255 : Int32) < c1 := hB
  refine op T3 (mkF m 25 #[rv a0, iv 1, rv a2, iv 1, iv 2, iv 1, iv c1] [(.int 1)]) (fun _ k => XS.icmpNo X3.here hx rfl (hb hby d7_20) rfl (tlt hc20).2.2.2 (XS.iload X3.here hx rfl (hb hby d7_23) rfl k)) ?_
  exact own_ret (w := (.int 1)) X3 hx Bd.notSynchronized Bd.returns rfl (Or.inl ⟨rfl, by simp, _, rfl⟩) (hb hby d7_25) (by rw [e3]; exact ⟨NF3, KP3, f6⟩) (by decide) (by decide)
theorem ef_c2U21 (m : MethodId) (a0 a2 : Addr) : entryFrame m #[(.ref a0), (.int 0), (.ref a2), (.int 0), (.int 2)] 7 = mkF m 0 #[rv a0, iv 0, rv a2, iv 0, iv 2, uu, uu] [] := by first | (simp [entryFrame, mkF, argsToLocals, Value.category]; done) | rfl
set_option maxRecDepth 65536 in
set_option maxHeartbeats 40000000 in
theorem rmc2U21 (l : Launch) (Z : State) (aw : Array Value) (hw : HW aw Z) (ws : List Jvm.Cond) (c0 c1 : Int32) (a0 a2 : Addr) (h0 : Heap) (n0 : Nat) (SZ0 : n0 ≤ h0.size) (G0 : own_Pv Z h0 a0 (2 : Int32) [c0, c1] .char) (Gp : own_Pv Z h0 a2 (2 : Int32) [(0 : Int32), (0 : Int32)] .byte) (J0 : own_J Z h0) (Gv : a0 ≠ a2) (hL0 : ¬ (255 : Int32) < c0) (hB : (255 : Int32) < c1) (Gn : n0 ≤ a2) :
    MetFree l y24 (head1 (Jvm.Cond.code y24 Gj 7 (some .int) :: ws) Qc2U21) (fun a U => a = #[(.ref a0), (.int 0), (.ref a2), (.int 0), (.int 2)] ∧ Z.Warmed39 U.vm ∧ U.heap = h0) (fun _ _ _ _ _ => True) (fun _ U o U' => ∃ v L, o = .returned v ∧ own_Q (Rc2U21 (fc2U21_0 c0 c1)) (Kc2U21 Z c0 c1 a0 a2 h0 n0 (fc2U21_0 c0 c1)) v U'.heap L ∧ FrameEnd U o U' L Qc2U21.cells Qc2U21.slots) := by
  refine MetFree.of_bodySF (plainFor_of_name own_pn4) hisR ?_
  intro p e s m args below meth c s₁ Bd hml0 hP hK
  obtain ⟨rfl, hZ, hh⟩ := hP
  have hml : c.maxLocals = 7 := hml0
  have e0 : s₁.heap = h0 := by rw [← hh, Bd.state]; rfl
  exact own_pre (fun t k => castTop (ef_c2U21 m a0 a2) k) (gc2U21_0 hw c0 c1 a0 a2 Gv hL0 hB Bd hml hZ Gn s₁ (Stand.of_body Bd) e0 SZ0 (Fr.nil n0) (Keep.refl _ _) G0 Gp J0)
abbrev QcpU21 : Room := { frames := 3, cells := 2, slots := 6, locals := 64 }
/-! body 6, cpU21 -/
def RcpU21 (t : Unit) : Option Value := none
def KcpU21 (Z : State) (c0 c1 : Int32) (a0 : Addr) (h0 : Heap) (n0 : Nat) (t : Unit) (h : Heap) (L : List Loc) (rb : Addr) : Prop := Fr n0 L ∧ Keep h0 h [] ∧ h0.size ≤ rb ∧ own_Pv Z h rb (4 : Int32) [(own_lo c0), (own_hi c0), (own_lo c1), (own_hi c1)] .byte ∧ own_J Z h
def fcpU21_0 (c0 c1 : Int32) : Unit := ()
set_option maxRecDepth 65536 in
set_option maxHeartbeats 40000000 in
theorem gcpU21_0 (hw : HW aw Z) {h0 : Heap} {n0 : Nat} (c0 c1 : Int32) (a0 : Addr) (hL0 : ¬ (255 : Int32) < c0) (hB : (255 : Int32) < c1) (hC : own_ch c1)
    (Bd : BodyLoose p l y25 (head1 (Jvm.Cond.code y25 Gi 6 (some (.array .byte)) :: ws) QcpU21) Gi 6 (some (.array .byte)) e s m #[(.ref a0), (.int 0), (.int 2)] below meth c s₁) (hml : c.maxLocals = 6) (hZ : Z.Warmed39 s.vm) (T0 : State) {locs : List Loc} (X0 : Stand p l e QcpU21 s m #[(.ref a0), (.int 0), (.int 2)] below meth c T0 locs 0 0) (e0 : T0.heap = h0) (SZ0 : n0 ≤ h0.size) (NF0 : Fr n0 locs) (KP0 : Keep h0 h0 []) (G0 : own_Pv Z h0 a0 (2 : Int32) [c0, c1] .char) (J0 : own_J Z h0) :
    own_GoE p e below s QcpU21.cells QcpU21.slots (KcpU21 Z c0 c1 a0 h0 n0 (fcpU21_0 c0 c1)) (T0.setTop (mkF m 0 #[rv a0, iv 0, iv 2, uu, uu, uu] [])) := by
  have hx := Bd.exec
  have hby := Bd.bytes
  have hown : s.vm.findClass cU = some m.cls := findClass_of_methodNamed Bd.named
  have hnm := (name_of_methodNamed Bd.named Bd.method).1
  unfold fcpU21_0
  refine opE T0 (mkF m 1 #[rv a0, iv 0, iv 2, uu, uu, uu] [(.int 2)]) (fun _ k => XS.iloadN X0.here hx rfl (hb hby d6_0) rfl k) ?_
  obtain ⟨T1, h1, k1, X1, e1, E1, A1, st'⟩ := newP X0 hx hZ (ow hw 16 rfl) e0 (g := (mkF m 1 #[rv a0, iv 0, iv 2, uu, uu, uu] [(.int 2)])) rfl (hb hby d6_1) rfl (by decide) (cap := 2) (by decide) (by decide) (by decide) (by decide)
  obtain ⟨b1, g1⟩ : ∃ z, z = h0.size := ⟨_, rfl⟩
  rw [← g1] at A1 st'
  have Gu : n0 ≤ b1 := Nat.le_trans SZ0 (Nat.le_of_eq g1.symm)
  have Go : a0 ≠ b1 := Nat.ne_of_lt (Nat.lt_of_lt_of_le G0.lt (Nat.le_of_eq g1.symm))
  have Gr : h0.size ≤ b1 := Nat.le_trans KP0.1 (Nat.le_of_eq g1.symm)
  have KP1 := KP0.ext E1
  have SZ1 : n0 ≤ h1.size := Nat.le_trans SZ0 E1.1
  have f2 := G0.ext E1
  have f3 := own_J.ext J0 E1
  have f4 : own_Pv Z h1 b1 (2 : Int32) [(0 : Int32), (0 : Int32)] .byte := ⟨_, (Arv.new A1 (by decide)).pad (pad_rep [] (.int 0) 2)⟩
  refine opE T1 (mkF m 9 #[rv a0, iv 0, iv 2, rv b1, uu, uu] [(.int 2), (.int 0), (.ref b1), (.int 0), (.ref a0)]) (fun _ k => st' _ (XS.astoreN X1.here hx rfl (hb hby d6_3) rfl rfl (l' := #[rv a0, iv 0, iv 2, rv b1, uu, uu]) rfl (XS.aloadN X1.here hx rfl (hb hby d6_4) rfl rfl (XS.iloadN X1.here hx rfl (hb hby d6_5) rfl (XS.aloadN X1.here hx rfl (hb hby d6_6) rfl rfl (XS.iconst X1.here hx rfl (hb hby d6_7) (XS.iloadN X1.here hx rfl (hb hby d6_8) rfl k))))))) ?_
  obtain ⟨_, _, ⟨T5, L5, k5, n5⟩, -, X5', ⟨Lc5, hQ5, l5, y5, z5⟩, st'⟩ := Jvm.LawKit.callS X1 hx (y := y24) hown (mvT hZ (ow hw 37 rfl)) (mvT hZ (ow hw 38 rfl)) (mvT hZ (ow hw 35 rfl)) (mvT hZ (ow hw 39 rfl)) (by decide) (backOf (W := 0) (rmc2U21 l Z aw hw [] c0 c1 a0 b1 h1 n0 SZ1 f2 f4 f3 Go hL0 hB Gu) hZ (ow hw 39 rfl) (ow hw 35 rfl) (by decide) (by decide)) (g := (mkF m 9 #[rv a0, iv 0, iv 2, rv b1, uu, uu] [(.int 2), (.int 0), (.ref b1), (.int 0), (.ref a0)])) rfl (by rw [hml]; rfl) (argsL := [(.ref a0), (.int 0), (.ref b1), (.int 0), (.int 2)]) (rest := []) (lenOf own_pd14 rfl) rfl (by show 2 * 0 + _ ≤ _; exact Nat.le_of_eq rfl) (hb hby d6_9) (fun _ _ => ⟨rfl, e1, (by decide : 1 + 0 ≤ _), (by decide : 2 + 0 ≤ _)⟩)
  dsimp only [Pt.U, Pt.locs, Pt.cells, Pt.slots] at X5' l5 y5 z5 st' hQ5
  subst l5 y5 z5
  obtain ⟨rfl, NFq5, KPq5, p5_0⟩ := hQ5
  have X5 : Stand p l e QcpU21 s m #[(.ref a0), (.int 0), (.int 2)] below meth c T5 _ 1 2 := X5'
  have NF5 := Fr.app NF0 NFq5
  have SZ5 : n0 ≤ T5.heap.size := Nat.le_trans SZ1 KPq5.1
  have KP5 : Keep h0 T5.heap [] := KP1.trans KPq5 (allS (Or.inr Gr) all0)
  have f6 := f2.keep KPq5 (ninS Go nin0)
  refine opE T5 (mkF m 17 #[rv a0, iv 0, iv 2, rv b1, iv 1, uu] [(.int 2), (.int 1)]) (fun _ k => st' _ (XS.istore X5.here hx rfl (hb hby d6_12) rfl (l' := #[rv a0, iv 0, iv 2, rv b1, iv 1, uu]) rfl (XS.iload X5.here hx rfl (hb hby d6_14) rfl (XS.iloadN X5.here hx rfl (hb hby d6_16) rfl k)))) ?_
  have hd7 : ¬ ((1 : Int32) = (2 : Int32)) := by decide
  refine opE T5 (mkF m 23 #[rv a0, iv 0, iv 2, rv b1, iv 1, uu] [(.int 2), (.int 0), (.ref a0)]) (fun _ k => XS.icmpNo X5.here hx rfl (hb hby d6_17) rfl (feq hd7).1 (XS.aloadN X5.here hx rfl (hb hby d6_20) rfl rfl (XS.iloadN X5.here hx rfl (hb hby d6_21) rfl (XS.iloadN X5.here hx rfl (hb hby d6_22) rfl k)))) ?_
  obtain ⟨_, _, ⟨T8, L8, k8, n8⟩, -, X8', ⟨Lc8, hQ8, l8, y8, z8⟩, st'⟩ := Jvm.LawKit.callS X5 hx (y := y23) hown (mvT hZ (ow hw 107 rfl)) (mvT hZ (ow hw 108 rfl)) (mvT hZ (ow hw 35 rfl)) (mvT hZ (ow hw 109 rfl)) (by decide) (backOf (W := 0) (rmtb2 l Z aw hw [] c0 c1 a0 T5.heap n0 SZ5 f6 p5_0) hZ (ow hw 109 rfl) (ow hw 35 rfl) (by decide) (by decide)) (g := (mkF m 23 #[rv a0, iv 0, iv 2, rv b1, iv 1, uu] [(.int 2), (.int 0), (.ref a0)])) rfl (by rw [hml]; rfl) (argsL := [(.ref a0), (.int 0), (.int 2)]) (rest := []) (lenOf own_pd15 rfl) rfl (by show 2 * 0 + _ ≤ _; exact Nat.le_of_eq rfl) (hb hby d6_23) (fun _ _ => ⟨rfl, (rfl : T5.heap = T5.heap), (by decide : 1 + 1 ≤ _), (by decide : 2 + 4 ≤ _)⟩)
  dsimp only [Pt.U, Pt.locs, Pt.cells, Pt.slots] at X8' l8 y8 z8 st' hQ8
  subst l8 y8 z8
  obtain ⟨rfl, NFq8, KPq8, p8_0, p8_1⟩ := hQ8
  have X8 : Stand p l e QcpU21 s m #[(.ref a0), (.int 0), (.int 2)] below meth c T8 _ 2 6 := X8'
  have NF8 := Fr.app NF5 NFq8
  have SZ8 : n0 ≤ T8.heap.size := Nat.le_trans SZ5 KPq8.1
  have KP8 : Keep h0 T8.heap [] := KP5.trans KPq8 all0
  obtain ⟨b8, g8⟩ : ∃ z, z = T5.heap.size := ⟨_, rfl⟩
  simp only [Rtb2, ← g8] at st' p8_0
  have g_b8 : n0 ≤ b8 := Nat.le_trans SZ5 (Nat.le_of_eq g8.symm)
  have Hk : h0.size ≤ b8 := Nat.le_trans KP5.1 (Nat.le_of_eq g8.symm)
  have Hw : a0 ≠ b8 := Nat.ne_of_lt (Nat.lt_of_lt_of_le f6.lt (Nat.le_of_eq g8.symm))
  have f9 := f6.keep KPq8 nin0
  have f10 := own_J.keep p5_0 KPq8
  refine opE T8 (mkF m 32 #[rv a0, iv 0, iv 2, rv b1, iv 1, rv b8] [(.int 1), (.ref b8)]) (fun _ k => st' _ (XS.astore X8.here hx rfl (hb hby d6_26) rfl rfl (l' := #[rv a0, iv 0, iv 2, rv b1, iv 1, rv b8]) rfl (XS.aload X8.here hx rfl (hb hby d6_28) rfl rfl (XS.iload X8.here hx rfl (hb hby d6_30) rfl k)))) ?_
  obtain ⟨_, _, ⟨T11, L11, k11, n11⟩, -, X11', ⟨Lc11, hQ11, l11, y11, z11⟩, st'⟩ := Jvm.LawKit.callS X8 hx (y := y3) hown (mvT hZ (ow hw 123 rfl)) (mvT hZ (ow hw 124 rfl)) (mvT hZ (ow hw 35 rfl)) (mvT hZ (ow hw 125 rfl)) (by decide) (backOf (W := 0) (rmgc l Z aw hw [] (1 : Int32) (4 : Int32) (own_lo c1) (own_hi c1) b8 T8.heap n0 SZ8 (own_Pv.be p8_0 (by intro x hx; simp only [List.mem_cons, List.not_mem_nil, or_false] at hx; rcases hx with rfl | rfl <;> rfl)) p8_1 (by decide) (by decide) (by decide) (by decide)) hZ (ow hw 125 rfl) (ow hw 35 rfl) (by decide) (by decide)) (g := (mkF m 32 #[rv a0, iv 0, iv 2, rv b1, iv 1, rv b8] [(.int 1), (.ref b8)])) rfl (by rw [hml]; rfl) (argsL := [(.ref b8), (.int 1)]) (rest := []) (lenOf own_pd4 rfl) rfl (by show 2 * 0 + _ ≤ _; exact Nat.le_of_eq rfl) (hb hby d6_32) (fun _ _ => ⟨rfl, (rfl : T8.heap = T8.heap), (by decide : 2 + 0 ≤ _), (by decide : 6 + 0 ≤ _)⟩)
  dsimp only [Pt.U, Pt.locs, Pt.cells, Pt.slots] at X11' l11 y11 z11 st' hQ11
  subst l11 y11 z11
  obtain ⟨rfl, rfl, e11⟩ := hQ11
  have X11 : Stand p l e QcpU21 s m #[(.ref a0), (.int 0), (.int 2)] below meth c T11 _ 2 6 := own_locs X11'
  refine opE T11 (mkF m 38 #[rv a0, iv 0, iv 2, rv b1, iv 1, rv b8] [(.int 255), (.int (fgc_0 (1 : Int32) (4 : Int32) (own_lo c1) (own_hi c1)))]) (fun _ k => st' _ (XS.sipush X11.here hx rfl (hb hby d6_35) k)) ?_
  have hc38 : (255 : Int32) < (fgc_0 (1 : Int32) (4 : Int32) (own_lo c1) (own_hi c1)) := (by rw [own_gcE _ _ hC]; exact hB)
  refine opE T11 (mkF m 56 #[rv a0, iv 0, iv 2, rv b1, iv 1, rv b8] [(.ref b8)]) (fun _ k => XS.icmpYes X11.here hx rfl (pc0 := 38) (pc' := 54) rfl (hb hby d6_38) rfl (tlt hc38).2.2.1 (by decide) (by decide) (XS.aload X11.here hx rfl (hb hby d6_54) rfl rfl k)) ?_
  exact own_retE (b := b8) X11 hx Bd.notSynchronized Bd.returns rfl (hb hby d6_56) (by rw [e11]; exact ⟨NF8, KP8, Hk, p8_0, p8_1⟩) (by decide) (by decide)
theorem ef_cpU21 (m : MethodId) (a0 : Addr) : entryFrame m #[(.ref a0), (.int 0), (.int 2)] 6 = mkF m 0 #[rv a0, iv 0, iv 2, uu, uu, uu] [] := by first | (simp [entryFrame, mkF, argsToLocals, Value.category]; done) | rfl
set_option maxRecDepth 65536 in
set_option maxHeartbeats 40000000 in
theorem rmcpU21 (l : Launch) (Z : State) (aw : Array Value) (hw : HW aw Z) (ws : List Jvm.Cond) (c0 c1 : Int32) (a0 : Addr) (h0 : Heap) (n0 : Nat) (SZ0 : n0 ≤ h0.size) (G0 : own_Pv Z h0 a0 (2 : Int32) [c0, c1] .char) (J0 : own_J Z h0) (hL0 : ¬ (255 : Int32) < c0) (hB : (255 : Int32) < c1) (hC : own_ch c1) :
    MetFree l y25 (head1 (Jvm.Cond.code y25 Gi 6 (some (.array .byte)) :: ws) QcpU21) (fun a U => a = #[(.ref a0), (.int 0), (.int 2)] ∧ Z.Warmed39 U.vm ∧ U.heap = h0) (fun _ _ _ _ _ => True) (fun _ U o U' => ∃ v L, o = .returned v ∧ own_QE (KcpU21 Z c0 c1 a0 h0 n0 (fcpU21_0 c0 c1)) v U'.heap L ∧ FrameEnd U o U' L QcpU21.cells QcpU21.slots) := by
  refine MetFree.of_bodySF (plainFor_of_name own_pn4) hisR ?_
  intro p e s m args below meth c s₁ Bd hml0 hP hK
  obtain ⟨rfl, hZ, hh⟩ := hP
  have hml : c.maxLocals = 6 := hml0
  have e0 : s₁.heap = h0 := by rw [← hh, Bd.state]; rfl
  exact own_preE (fun t k => castTop (ef_cpU21 m a0) k) (gcpU21_0 hw c0 c1 a0 hL0 hB hC Bd hml hZ s₁ (Stand.of_body Bd) e0 SZ0 (Fr.nil n0) (Keep.refl _ _) G0 J0)
abbrev Qnl3 : Room := { frames := 0, cells := 0, slots := 0, locals := 0 }
/-! body 26, nl3 -/
def Rnl3 (t : Int32) : Option Value := some (.int t)
def Knl3 (Z : State)   (h0 : Heap) (n0 : Nat) (t : Int32) (h : Heap) (L : List Loc) : Prop := own_K0 h0 h L
def fnl3_0  : Int32 := (6 : Int32)
set_option maxRecDepth 65536 in
set_option maxHeartbeats 40000000 in
theorem gnl3_0 (hw : HW aw Z) {h0 : Heap} {n0 : Nat}  
    (Bd : BodyLoose p l y20 (head1 (Jvm.Cond.code y20 H0 1 (some .int) :: ws) Qnl3) H0 1 (some .int) e s m #[(.int 3)] below meth c s₁) (hml : c.maxLocals = 1) (hZ : Z.Warmed39 s.vm) (T0 : State) {locs : List Loc} (X0 : Stand p l e Qnl3 s m #[(.int 3)] below meth c T0 locs 0 0) (e0 : T0.heap = h0) (SZ0 : n0 ≤ h0.size) (NF0 : locs = []) :
    own_Go p e below s Qnl3.cells Qnl3.slots (Rnl3 (fnl3_0 )) (Knl3 Z   h0 n0 (fnl3_0 )) (T0.setTop (mkF m 0 #[iv 3] [])) := by
  have hx := Bd.exec
  have hby := Bd.bytes
  have hown : s.vm.findClass cU = some m.cls := findClass_of_methodNamed Bd.named
  have hnm := (name_of_methodNamed Bd.named Bd.method).1
  unfold fnl3_0
  refine op T0 (mkF m 1 #[iv 3] [(.int 3)]) (fun _ k => XS.iloadN X0.here hx rfl (hb hby d26_0) rfl k) ?_
  have hc1 : ¬ ((3 : Int32) < (0 : Int32)) := (by decide)
  refine op T0 (mkF m 13 #[iv 3] [(.int 3)]) (fun _ k => XS.ifYes X0.here hx rfl (pc0 := 1) (pc' := 12) rfl (hb hby d26_1) rfl ((if0 _ _).trans (flt hc1).2.1) (by decide) (by decide) (XS.iloadN X0.here hx rfl (hb hby d26_12) rfl k)) ?_
  refine op T0 (mkF m 15 #[iv 3] [(.int 1073741823), (.int 3)]) (fun _ k => X0.ldcInt hx hown (mvT hZ (ow hw 116 rfl)) (g := (mkF m 13 #[iv 3] [(.int 3)])) rfl (hb hby d26_13) _ k) ?_
  have hc15 : (3 : Int32) < (1073741823 : Int32) := (by decide)
  refine op T0 (mkF m 58 #[iv 3] [(.int 6)]) (fun _ k => XS.icmpYes X0.here hx rfl (pc0 := 15) (pc' := 55) rfl (hb hby d26_15) rfl (tlt hc15).1 (by decide) (by decide) (XS.iloadN X0.here hx rfl (hb hby d26_55) rfl (XS.iconst X0.here hx rfl (hb hby d26_56) (XS.ishl X0.here hx rfl (hb hby d26_57) rfl k)))) ?_
  exact own_ret (w := (.int 6)) X0 hx Bd.notSynchronized Bd.returns rfl (Or.inl ⟨rfl, by simp, _, rfl⟩) (hb hby d26_58) (by rw [e0]; exact ⟨NF0, rfl⟩) (by decide) (by decide)
theorem ef_nl3 (m : MethodId)  : entryFrame m #[(.int 3)] 1 = mkF m 0 #[iv 3] [] := by first | (simp [entryFrame, mkF, argsToLocals, Value.category]; done) | rfl
set_option maxRecDepth 65536 in
set_option maxHeartbeats 40000000 in
theorem rmnl3 (l : Launch) (Z : State) (aw : Array Value) (hw : HW aw Z) (ws : List Jvm.Cond)   (h0 : Heap) (n0 : Nat) (SZ0 : n0 ≤ h0.size) :
    MetFree l y20 (head1 (Jvm.Cond.code y20 H0 1 (some .int) :: ws) Qnl3) (fun a U => a = #[(.int 3)] ∧ Z.Warmed39 U.vm ∧ U.heap = h0) (fun _ _ _ _ _ => True) (fun _ U o U' => ∃ v L, o = .returned v ∧ own_Q (Rnl3 (fnl3_0 )) (Knl3 Z   h0 n0 (fnl3_0 )) v U'.heap L ∧ FrameEnd U o U' L Qnl3.cells Qnl3.slots) := by
  refine MetFree.of_bodySF (plainFor_of_name own_pn4) hisR ?_
  intro p e s m args below meth c s₁ Bd hml0 hP hK
  obtain ⟨rfl, hZ, hh⟩ := hP
  have hml : c.maxLocals = 1 := hml0
  have e0 : s₁.heap = h0 := by rw [← hh, Bd.state]; rfl
  exact own_pre (fun t k => castTop (ef_nl3 m ) k) (gnl3_0 hw   Bd hml hZ s₁ (Stand.of_body Bd) e0 SZ0 rfl)
abbrev Qnf3 : Room := { frames := 1, cells := 1, slots := 6, locals := 20 }
/-! body 25, nf3 -/
def Rnf3 (h0 : Heap) (t : Unit) : Option Value := some (.ref h0.size)
def Knf3 (Z : State)   (h0 : Heap) (n0 : Nat) (t : Unit) (h : Heap) (L : List Loc) : Prop := Fr n0 L ∧ Keep h0 h [] ∧ own_Pv Z h h0.size (6 : Int32) [(0 : Int32), (0 : Int32), (0 : Int32), (0 : Int32), (0 : Int32), (0 : Int32)] .byte
def fnf3_0  : Unit := ()
set_option maxRecDepth 65536 in
set_option maxHeartbeats 40000000 in
theorem gnf3_0 (hw : HW aw Z) {h0 : Heap} {n0 : Nat}  
    (Bd : BodyLoose p l y21 (head1 (Jvm.Cond.code y21 Hj 1 (some (.array .byte)) :: ws) Qnf3) Hj 1 (some (.array .byte)) e s m #[(.int 3)] below meth c s₁) (hml : c.maxLocals = 1) (hZ : Z.Warmed39 s.vm) (T0 : State) {locs : List Loc} (X0 : Stand p l e Qnf3 s m #[(.int 3)] below meth c T0 locs 0 0) (e0 : T0.heap = h0) (SZ0 : n0 ≤ h0.size) (NF0 : Fr n0 locs) (KP0 : Keep h0 h0 []) :
    own_Go p e below s Qnf3.cells Qnf3.slots (Rnf3 h0 (fnf3_0 )) (Knf3 Z   h0 n0 (fnf3_0 )) (T0.setTop (mkF m 0 #[iv 3] [])) := by
  have hx := Bd.exec
  have hby := Bd.bytes
  have hown : s.vm.findClass cU = some m.cls := findClass_of_methodNamed Bd.named
  have hnm := (name_of_methodNamed Bd.named Bd.method).1
  unfold fnf3_0
  refine op T0 (mkF m 1 #[iv 3] [(.int 3)]) (fun _ k => XS.iloadN X0.here hx rfl (hb hby d25_0) rfl k) ?_
  obtain ⟨_, _, ⟨T1, L1, k1, n1⟩, -, X1', ⟨Lc1, hQ1, l1, y1, z1⟩, st'⟩ := Jvm.LawKit.callS X0 hx (y := y20) hown (mvT hZ (ow hw 113 rfl)) (mvT hZ (ow hw 114 rfl)) (mvT hZ (ow hw 35 rfl)) (mvT hZ (ow hw 115 rfl)) (by decide) (backOf (W := 0) (rmnl3 l Z aw hw []   h0 n0 SZ0 ) hZ (ow hw 115 rfl) (ow hw 35 rfl) (by decide) (by decide)) (g := (mkF m 1 #[iv 3] [(.int 3)])) rfl (by rw [hml]; rfl) (argsL := [(.int 3)]) (rest := []) (lenOf own_pd11 rfl) rfl (by show 2 * 0 + _ ≤ _; exact Nat.le_of_eq rfl) (hb hby d25_1) (fun _ _ => ⟨rfl, e0, (by decide : 0 + 0 ≤ _), (by decide : 0 + 0 ≤ _)⟩)
  dsimp only [Pt.U, Pt.locs, Pt.cells, Pt.slots] at X1' l1 y1 z1 st' hQ1
  subst l1 y1 z1
  obtain ⟨rfl, rfl, e1⟩ := hQ1
  have X1 : Stand p l e Qnf3 s m #[(.int 3)] below meth c T1 _ 0 0 := own_locs X1'
  refine op T1 (mkF m 4 #[iv 3] [(.int 6)]) (fun _ k => st' _ k) ?_
  obtain ⟨T2, h2, k2, X2, e2, E2, A2, st'⟩ := newP X1 hx hZ (ow hw 16 rfl) e1 (g := (mkF m 4 #[iv 3] [(.int 6)])) rfl (hb hby d25_4) rfl (by decide) (cap := 6) (by decide) (by decide) (by decide) (by decide)
  obtain ⟨b2, g2⟩ : ∃ z, z = h0.size := ⟨_, rfl⟩
  rw [← g2] at A2 st'
  have g_b2 : n0 ≤ b2 := Nat.le_trans SZ0 (Nat.le_of_eq g2.symm)
  have sz_b2 : h0.size ≤ b2 := Nat.le_trans KP0.1 (Nat.le_of_eq g2.symm)
  have KP2 := KP0.ext E2
  have SZ2 : n0 ≤ h2.size := Nat.le_trans SZ0 E2.1
  have f3 : own_Pv Z h2 b2 (6 : Int32) [(0 : Int32), (0 : Int32), (0 : Int32), (0 : Int32), (0 : Int32), (0 : Int32)] .byte := ⟨_, (Arv.new A2 (by decide)).pad (pad_rep [] (.int 0) 6)⟩
  refine op T2 (mkF m 6 #[iv 3] [(.ref b2)]) (fun _ k => st' _ k) ?_
  subst g2
  exact own_ret (w := (.ref h0.size)) X2 hx Bd.notSynchronized Bd.returns rfl (Or.inr (Or.inr ⟨rfl, rfl, rfl⟩)) (hb hby d25_6) (by rw [e2]; exact ⟨NF0, KP2, f3⟩) (by decide) (by decide)
theorem ef_nf3 (m : MethodId)  : entryFrame m #[(.int 3)] 1 = mkF m 0 #[iv 3] [] := by first | (simp [entryFrame, mkF, argsToLocals, Value.category]; done) | rfl
set_option maxRecDepth 65536 in
set_option maxHeartbeats 40000000 in
theorem rmnf3 (l : Launch) (Z : State) (aw : Array Value) (hw : HW aw Z) (ws : List Jvm.Cond)   (h0 : Heap) (n0 : Nat) (SZ0 : n0 ≤ h0.size) :
    MetFree l y21 (head1 (Jvm.Cond.code y21 Hj 1 (some (.array .byte)) :: ws) Qnf3) (fun a U => a = #[(.int 3)] ∧ Z.Warmed39 U.vm ∧ U.heap = h0) (fun _ _ _ _ _ => True) (fun _ U o U' => ∃ v L, o = .returned v ∧ own_Q (Rnf3 h0 (fnf3_0 )) (Knf3 Z   h0 n0 (fnf3_0 )) v U'.heap L ∧ FrameEnd U o U' L Qnf3.cells Qnf3.slots) := by
  refine MetFree.of_bodySF (plainFor_of_name own_pn4) hisR ?_
  intro p e s m args below meth c s₁ Bd hml0 hP hK
  obtain ⟨rfl, hZ, hh⟩ := hP
  have hml : c.maxLocals = 1 := hml0
  have e0 : s₁.heap = h0 := by rw [← hh, Bd.state]; rfl
  exact own_pre (fun t k => castTop (ef_nf3 m ) k) (gnf3_0 hw   Bd hml hZ s₁ (Stand.of_body Bd) e0 SZ0 (Fr.nil n0) (Keep.refl _ _))
abbrev Qpc30 : Room := { frames := 0, cells := 0, slots := 0, locals := 0 }
/-! body 27, pc30 -/
def Rpc30 (t : Unit) : Option Value := none
def Kpc30 (Z : State) (p2 v0 v1 v2 v3 v4 v5 : Int32) (a0 : Addr) (h0 : Heap) (n0 : Nat) (t : Unit) (h : Heap) (L : List Loc) : Prop := Fr n0 L ∧ Keep h0 h [a0] ∧ own_Pv Z h a0 (6 : Int32) [(own_lo p2), (own_hi p2), v2, v3, v4, v5] .byte ∧ own_J Z h
def fpc30_0 (p2 v0 v1 v2 v3 v4 v5 : Int32) : Unit := ()
set_option maxRecDepth 65536 in
set_option maxHeartbeats 40000000 in
theorem gpc30_0 (hw : HW aw Z) {h0 : Heap} {n0 : Nat} (p2 v0 v1 v2 v3 v4 v5 : Int32) (a0 : Addr)
    (Bd : BodyLoose p l y22 (head1 (Jvm.Cond.code y22 Gm 3 none :: ws) Qpc30) Gm 3 none e s m #[(.ref a0), (.int 0), (.int p2)] below meth c s₁) (hml : c.maxLocals = 3) (hZ : Z.Warmed39 s.vm) (Gb : n0 ≤ a0) (T0 : State) {locs : List Loc} (X0 : Stand p l e Qpc30 s m #[(.ref a0), (.int 0), (.int p2)] below meth c T0 locs 0 0) (e0 : T0.heap = h0) (SZ0 : n0 ≤ h0.size) (NF0 : Fr n0 locs) (KP0 : Keep h0 h0 [a0]) (G0 : own_Pv Z h0 a0 (6 : Int32) [v0, v1, v2, v3, v4, v5] .byte) (J0 : own_J Z h0) :
    own_Go p e below s Qpc30.cells Qpc30.slots (Rpc30 (fpc30_0 p2 v0 v1 v2 v3 v4 v5)) (Kpc30 Z p2 v0 v1 v2 v3 v4 v5 a0 h0 n0 (fpc30_0 p2 v0 v1 v2 v3 v4 v5)) (T0.setTop (mkF m 0 #[rv a0, iv 0, iv p2] [])) := by
  have hx := Bd.exec
  have hby := Bd.bytes
  have hown : s.vm.findClass cU = some m.cls := findClass_of_methodNamed Bd.named
  have hnm := (name_of_methodNamed Bd.named Bd.method).1
  unfold fpc30_0
  obtain ⟨cs, sf, js⟩ := id J0
  obtain ⟨T1, X1, e1, st'⟩ := getS2 X0 hx hZ hown (host := "") (Or.inl (ow hw 120 rfl)) Via.refl e0 js.2.2.1 (g := (mkF m 0 #[rv a0, iv 0, iv p2] [])) rfl (hb hby d27_0)
  refine op T1 (mkF m 3 #[rv a0, iv 0, iv p2] [(.int 1)]) (fun _ k => st' _ k) ?_
  have hc3 : ¬ ((1 : Int32) = (0 : Int32)) := (show ¬ (1 : Int32) = 0 by decide)
  refine op T1 (mkF m 37 #[rv a0, iv 1, iv p2] [(.int 0), (.ref a0)]) (fun _ k => XS.ifYes X1.here hx rfl (pc0 := 3) (pc' := 28) rfl (hb hby d27_3) rfl ((if0 _ _).trans (feq hc3).2) (by decide) (by decide) (XS.iloadN X1.here hx rfl (hb hby d27_28) rfl (XS.iconst X1.here hx rfl (hb hby d27_29) (XS.ishl X1.here hx rfl (hb hby d27_30) rfl (XS.istoreN X1.here hx rfl (hb hby d27_31) rfl (l' := #[rv a0, iv 0, iv p2]) rfl (XS.aloadN X1.here hx rfl (hb hby d27_32) rfl rfl (XS.iloadN X1.here hx rfl (hb hby d27_33) rfl (XS.iinc X1.here hx rfl (hb hby d27_34) rfl (l' := #[rv a0, iv 1, iv p2]) rfl k)))))))) ?_
  refine op T1 (mkF m 38 #[rv a0, iv 1, iv p2] [(.int p2), (.int 0), (.ref a0)]) (fun _ k => XS.iloadN X1.here hx rfl (hb hby d27_37) rfl k) ?_
  obtain ⟨cs, sf, js⟩ := id J0
  obtain ⟨T2, X2, e2, st'⟩ := getS2 X1 hx hZ hown (host := "") (Or.inl (ow hw 121 rfl)) Via.refl e1 js.2.2.2.1 (g := (mkF m 38 #[rv a0, iv 1, iv p2] [(.int p2), (.int 0), (.ref a0)])) rfl (hb hby d27_38)
  refine op T2 (mkF m 43 #[rv a0, iv 1, iv p2] [(.int ((p2 >>> ((0 : Int32) &&& 31)).toInt8.toInt32)), (.int 0), (.ref a0)]) (fun _ k => st' _ (XS.ishr X2.here hx rfl (hb hby d27_41) rfl (XS.i2b X2.here hx rfl (hb hby d27_42) rfl k))) ?_
  obtain ⟨k3, cl3, Ar3, q3, S3, N3, H3, G3⟩ := id G0
  have hin3 : ¬ ((0 : Int32) < 0 ∨ cl3.slots.size ≤ ((0 : Int32)).toNatClampNeg) := inb_of S3 ⟨by decide, by decide⟩
  obtain ⟨T3, h3, X3, e3, W3, st'⟩ := stB X2 hx hZ e2 Ar3 (j := (0 : Int32)) hin3 (g := (mkF m 43 #[rv a0, iv 1, iv p2] [(.int ((p2 >>> ((0 : Int32) &&& 31)).toInt8.toInt32)), (.int 0), (.ref a0)])) rfl rfl (hb hby d27_43)
  have f4 : own_Pv Z h3 a0 (6 : Int32) [(((p2 >>> ((0 : Int32) &&& 31)).toInt8.toInt32).toInt8.toInt32), v1, v2, v3, v4, v5] .byte := ⟨_, Arv.set Ar3 q3 S3 N3 H3 G3 (fits_nar_byte _) W3 0 rfl (Nat.le_of_ble_eq_true rfl)⟩
  have f5 := own_J.wr J0 W3
  have NF3 := Fr.snoc X3 NF0 Gb
  have SZ3 : n0 ≤ h3.size := (Nat.le_trans SZ0 (Keep.of_wr W3).1)
  have KP3 : Keep h0 h3 [a0] := KP0.wr W3 (Or.inl (List.mem_of_getElem? (i := 0) rfl))
  refine op T3 (mkF m 47 #[rv a0, iv 1, iv p2] [(.int p2), (.int 1), (.ref a0)]) (fun _ k => st' _ (XS.aloadN X3.here hx rfl (hb hby d27_44) rfl rfl (XS.iloadN X3.here hx rfl (hb hby d27_45) rfl (XS.iloadN X3.here hx rfl (hb hby d27_46) rfl k)))) ?_
  obtain ⟨cs, sf, js⟩ := id f5
  obtain ⟨T6, X6, e6, st'⟩ := getS2 X3 hx hZ hown (host := "") (Or.inl (ow hw 122 rfl)) Via.refl e3 js.2.2.2.2.1 (g := (mkF m 47 #[rv a0, iv 1, iv p2] [(.int p2), (.int 1), (.ref a0)])) rfl (hb hby d27_47)
  refine op T6 (mkF m 52 #[rv a0, iv 1, iv p2] [(.int ((p2 >>> ((8 : Int32) &&& 31)).toInt8.toInt32)), (.int 1), (.ref a0)]) (fun _ k => st' _ (XS.ishr X6.here hx rfl (hb hby d27_50) rfl (XS.i2b X6.here hx rfl (hb hby d27_51) rfl k))) ?_
  obtain ⟨k7, cl7, Ar7, q7, S7, N7, H7, G7⟩ := id f4
  have hin7 : ¬ ((1 : Int32) < 0 ∨ cl7.slots.size ≤ ((1 : Int32)).toNatClampNeg) := inb_of S7 ⟨by decide, by decide⟩
  obtain ⟨T7, h7, X7, e7, W7, st'⟩ := stB X6 hx hZ e6 Ar7 (j := (1 : Int32)) hin7 (g := (mkF m 52 #[rv a0, iv 1, iv p2] [(.int ((p2 >>> ((8 : Int32) &&& 31)).toInt8.toInt32)), (.int 1), (.ref a0)])) rfl rfl (hb hby d27_52)
  have f8 : own_Pv Z h7 a0 (6 : Int32) [(((p2 >>> ((0 : Int32) &&& 31)).toInt8.toInt32).toInt8.toInt32), (((p2 >>> ((8 : Int32) &&& 31)).toInt8.toInt32).toInt8.toInt32), v2, v3, v4, v5] .byte := ⟨_, Arv.set Ar7 q7 S7 N7 H7 G7 (fits_nar_byte _) W7 1 rfl (Nat.le_of_ble_eq_true rfl)⟩
  have f9 := own_J.wr f5 W7
  have NF7 := Fr.snoc X7 NF3 Gb
  have SZ7 : n0 ≤ h7.size := (Nat.le_trans SZ3 (Keep.of_wr W7).1)
  have KP7 : Keep h0 h7 [a0] := KP3.wr W7 (Or.inl (List.mem_of_getElem? (i := 0) rfl))
  refine op T7 (mkF m 53 #[rv a0, iv 1, iv p2] []) (fun _ k => st' _ k) ?_
  exact own_retV X7 hx Bd.notSynchronized Bd.returns (hb hby d27_53) (by rw [e7]; exact ⟨NF7, KP7, f8, f9⟩) (by decide) (by decide)
theorem ef_pc30 (m : MethodId) (a0 : Addr) (p2 : Int32) : entryFrame m #[(.ref a0), (.int 0), (.int p2)] 3 = mkF m 0 #[rv a0, iv 0, iv p2] [] := by first | (simp [entryFrame, mkF, argsToLocals, Value.category]; done) | rfl
set_option maxRecDepth 65536 in
set_option maxHeartbeats 40000000 in
theorem rmpc30 (l : Launch) (Z : State) (aw : Array Value) (hw : HW aw Z) (ws : List Jvm.Cond) (p2 v0 v1 v2 v3 v4 v5 : Int32) (a0 : Addr) (h0 : Heap) (n0 : Nat) (SZ0 : n0 ≤ h0.size) (G0 : own_Pv Z h0 a0 (6 : Int32) [v0, v1, v2, v3, v4, v5] .byte) (J0 : own_J Z h0) (Gb : n0 ≤ a0) :
    MetFree l y22 (head1 (Jvm.Cond.code y22 Gm 3 none :: ws) Qpc30) (fun a U => a = #[(.ref a0), (.int 0), (.int p2)] ∧ Z.Warmed39 U.vm ∧ U.heap = h0) (fun _ _ _ _ _ => True) (fun _ U o U' => ∃ v L, o = .returned v ∧ own_Q (Rpc30 (fpc30_0 p2 v0 v1 v2 v3 v4 v5)) (Kpc30 Z p2 v0 v1 v2 v3 v4 v5 a0 h0 n0 (fpc30_0 p2 v0 v1 v2 v3 v4 v5)) v U'.heap L ∧ FrameEnd U o U' L Qpc30.cells Qpc30.slots) := by
  refine MetFree.of_bodySF (plainFor_of_name own_pn4) hisR ?_
  intro p e s m args below meth c s₁ Bd hml0 hP hK
  obtain ⟨rfl, hZ, hh⟩ := hP
  have hml : c.maxLocals = 3 := hml0
  have e0 : s₁.heap = h0 := by rw [← hh, Bd.state]; rfl
  exact own_pre (fun t k => castTop (ef_pc30 m a0 p2) k) (gpc30_0 hw p2 v0 v1 v2 v3 v4 v5 a0 Bd hml hZ Gb s₁ (Stand.of_body Bd) e0 SZ0 (Fr.nil n0) (Keep.refl _ _) G0 J0)
abbrev Qpc31 : Room := { frames := 0, cells := 0, slots := 0, locals := 0 }
/-! body 27, pc31 -/
def Rpc31 (t : Unit) : Option Value := none
def Kpc31 (Z : State) (p2 v0 v1 v2 v3 v4 v5 : Int32) (a0 : Addr) (h0 : Heap) (n0 : Nat) (t : Unit) (h : Heap) (L : List Loc) : Prop := Fr n0 L ∧ Keep h0 h [a0] ∧ own_Pv Z h a0 (6 : Int32) [v0, v1, (own_lo p2), (own_hi p2), v4, v5] .byte ∧ own_J Z h
def fpc31_0 (p2 v0 v1 v2 v3 v4 v5 : Int32) : Unit := ()
set_option maxRecDepth 65536 in
set_option maxHeartbeats 40000000 in
theorem gpc31_0 (hw : HW aw Z) {h0 : Heap} {n0 : Nat} (p2 v0 v1 v2 v3 v4 v5 : Int32) (a0 : Addr)
    (Bd : BodyLoose p l y22 (head1 (Jvm.Cond.code y22 Gm 3 none :: ws) Qpc31) Gm 3 none e s m #[(.ref a0), (.int 1), (.int p2)] below meth c s₁) (hml : c.maxLocals = 3) (hZ : Z.Warmed39 s.vm) (Gb : n0 ≤ a0) (T0 : State) {locs : List Loc} (X0 : Stand p l e Qpc31 s m #[(.ref a0), (.int 1), (.int p2)] below meth c T0 locs 0 0) (e0 : T0.heap = h0) (SZ0 : n0 ≤ h0.size) (NF0 : Fr n0 locs) (KP0 : Keep h0 h0 [a0]) (G0 : own_Pv Z h0 a0 (6 : Int32) [v0, v1, v2, v3, v4, v5] .byte) (J0 : own_J Z h0) :
    own_Go p e below s Qpc31.cells Qpc31.slots (Rpc31 (fpc31_0 p2 v0 v1 v2 v3 v4 v5)) (Kpc31 Z p2 v0 v1 v2 v3 v4 v5 a0 h0 n0 (fpc31_0 p2 v0 v1 v2 v3 v4 v5)) (T0.setTop (mkF m 0 #[rv a0, iv 1, iv p2] [])) := by
  have hx := Bd.exec
  have hby := Bd.bytes
  have hown : s.vm.findClass cU = some m.cls := findClass_of_methodNamed Bd.named
  have hnm := (name_of_methodNamed Bd.named Bd.method).1
  unfold fpc31_0
  obtain ⟨cs, sf, js⟩ := id J0
  obtain ⟨T1, X1, e1, st'⟩ := getS2 X0 hx hZ hown (host := "") (Or.inl (ow hw 120 rfl)) Via.refl e0 js.2.2.1 (g := (mkF m 0 #[rv a0, iv 1, iv p2] [])) rfl (hb hby d27_0)
  refine op T1 (mkF m 3 #[rv a0, iv 1, iv p2] [(.int 1)]) (fun _ k => st' _ k) ?_
  have hc3 : ¬ ((1 : Int32) = (0 : Int32)) := (show ¬ (1 : Int32) = 0 by decide)
  refine op T1 (mkF m 37 #[rv a0, iv 3, iv p2] [(.int 2), (.ref a0)]) (fun _ k => XS.ifYes X1.here hx rfl (pc0 := 3) (pc' := 28) rfl (hb hby d27_3) rfl ((if0 _ _).trans (feq hc3).2) (by decide) (by decide) (XS.iloadN X1.here hx rfl (hb hby d27_28) rfl (XS.iconst X1.here hx rfl (hb hby d27_29) (XS.ishl X1.here hx rfl (hb hby d27_30) rfl (XS.istoreN X1.here hx rfl (hb hby d27_31) rfl (l' := #[rv a0, iv 2, iv p2]) rfl (XS.aloadN X1.here hx rfl (hb hby d27_32) rfl rfl (XS.iloadN X1.here hx rfl (hb hby d27_33) rfl (XS.iinc X1.here hx rfl (hb hby d27_34) rfl (l' := #[rv a0, iv 3, iv p2]) rfl k)))))))) ?_
  refine op T1 (mkF m 38 #[rv a0, iv 3, iv p2] [(.int p2), (.int 2), (.ref a0)]) (fun _ k => XS.iloadN X1.here hx rfl (hb hby d27_37) rfl k) ?_
  obtain ⟨cs, sf, js⟩ := id J0
  obtain ⟨T2, X2, e2, st'⟩ := getS2 X1 hx hZ hown (host := "") (Or.inl (ow hw 121 rfl)) Via.refl e1 js.2.2.2.1 (g := (mkF m 38 #[rv a0, iv 3, iv p2] [(.int p2), (.int 2), (.ref a0)])) rfl (hb hby d27_38)
  refine op T2 (mkF m 43 #[rv a0, iv 3, iv p2] [(.int ((p2 >>> ((0 : Int32) &&& 31)).toInt8.toInt32)), (.int 2), (.ref a0)]) (fun _ k => st' _ (XS.ishr X2.here hx rfl (hb hby d27_41) rfl (XS.i2b X2.here hx rfl (hb hby d27_42) rfl k))) ?_
  obtain ⟨k3, cl3, Ar3, q3, S3, N3, H3, G3⟩ := id G0
  have hin3 : ¬ ((2 : Int32) < 0 ∨ cl3.slots.size ≤ ((2 : Int32)).toNatClampNeg) := inb_of S3 ⟨by decide, by decide⟩
  obtain ⟨T3, h3, X3, e3, W3, st'⟩ := stB X2 hx hZ e2 Ar3 (j := (2 : Int32)) hin3 (g := (mkF m 43 #[rv a0, iv 3, iv p2] [(.int ((p2 >>> ((0 : Int32) &&& 31)).toInt8.toInt32)), (.int 2), (.ref a0)])) rfl rfl (hb hby d27_43)
  have f4 : own_Pv Z h3 a0 (6 : Int32) [v0, v1, (((p2 >>> ((0 : Int32) &&& 31)).toInt8.toInt32).toInt8.toInt32), v3, v4, v5] .byte := ⟨_, Arv.set Ar3 q3 S3 N3 H3 G3 (fits_nar_byte _) W3 2 rfl (Nat.le_of_ble_eq_true rfl)⟩
  have f5 := own_J.wr J0 W3
  have NF3 := Fr.snoc X3 NF0 Gb
  have SZ3 : n0 ≤ h3.size := (Nat.le_trans SZ0 (Keep.of_wr W3).1)
  have KP3 : Keep h0 h3 [a0] := KP0.wr W3 (Or.inl (List.mem_of_getElem? (i := 0) rfl))
  refine op T3 (mkF m 47 #[rv a0, iv 3, iv p2] [(.int p2), (.int 3), (.ref a0)]) (fun _ k => st' _ (XS.aloadN X3.here hx rfl (hb hby d27_44) rfl rfl (XS.iloadN X3.here hx rfl (hb hby d27_45) rfl (XS.iloadN X3.here hx rfl (hb hby d27_46) rfl k)))) ?_
  obtain ⟨cs, sf, js⟩ := id f5
  obtain ⟨T6, X6, e6, st'⟩ := getS2 X3 hx hZ hown (host := "") (Or.inl (ow hw 122 rfl)) Via.refl e3 js.2.2.2.2.1 (g := (mkF m 47 #[rv a0, iv 3, iv p2] [(.int p2), (.int 3), (.ref a0)])) rfl (hb hby d27_47)
  refine op T6 (mkF m 52 #[rv a0, iv 3, iv p2] [(.int ((p2 >>> ((8 : Int32) &&& 31)).toInt8.toInt32)), (.int 3), (.ref a0)]) (fun _ k => st' _ (XS.ishr X6.here hx rfl (hb hby d27_50) rfl (XS.i2b X6.here hx rfl (hb hby d27_51) rfl k))) ?_
  obtain ⟨k7, cl7, Ar7, q7, S7, N7, H7, G7⟩ := id f4
  have hin7 : ¬ ((3 : Int32) < 0 ∨ cl7.slots.size ≤ ((3 : Int32)).toNatClampNeg) := inb_of S7 ⟨by decide, by decide⟩
  obtain ⟨T7, h7, X7, e7, W7, st'⟩ := stB X6 hx hZ e6 Ar7 (j := (3 : Int32)) hin7 (g := (mkF m 52 #[rv a0, iv 3, iv p2] [(.int ((p2 >>> ((8 : Int32) &&& 31)).toInt8.toInt32)), (.int 3), (.ref a0)])) rfl rfl (hb hby d27_52)
  have f8 : own_Pv Z h7 a0 (6 : Int32) [v0, v1, (((p2 >>> ((0 : Int32) &&& 31)).toInt8.toInt32).toInt8.toInt32), (((p2 >>> ((8 : Int32) &&& 31)).toInt8.toInt32).toInt8.toInt32), v4, v5] .byte := ⟨_, Arv.set Ar7 q7 S7 N7 H7 G7 (fits_nar_byte _) W7 3 rfl (Nat.le_of_ble_eq_true rfl)⟩
  have f9 := own_J.wr f5 W7
  have NF7 := Fr.snoc X7 NF3 Gb
  have SZ7 : n0 ≤ h7.size := (Nat.le_trans SZ3 (Keep.of_wr W7).1)
  have KP7 : Keep h0 h7 [a0] := KP3.wr W7 (Or.inl (List.mem_of_getElem? (i := 0) rfl))
  refine op T7 (mkF m 53 #[rv a0, iv 3, iv p2] []) (fun _ k => st' _ k) ?_
  exact own_retV X7 hx Bd.notSynchronized Bd.returns (hb hby d27_53) (by rw [e7]; exact ⟨NF7, KP7, f8, f9⟩) (by decide) (by decide)
theorem ef_pc31 (m : MethodId) (a0 : Addr) (p2 : Int32) : entryFrame m #[(.ref a0), (.int 1), (.int p2)] 3 = mkF m 0 #[rv a0, iv 1, iv p2] [] := by first | (simp [entryFrame, mkF, argsToLocals, Value.category]; done) | rfl
set_option maxRecDepth 65536 in
set_option maxHeartbeats 40000000 in
theorem rmpc31 (l : Launch) (Z : State) (aw : Array Value) (hw : HW aw Z) (ws : List Jvm.Cond) (p2 v0 v1 v2 v3 v4 v5 : Int32) (a0 : Addr) (h0 : Heap) (n0 : Nat) (SZ0 : n0 ≤ h0.size) (G0 : own_Pv Z h0 a0 (6 : Int32) [v0, v1, v2, v3, v4, v5] .byte) (J0 : own_J Z h0) (Gb : n0 ≤ a0) :
    MetFree l y22 (head1 (Jvm.Cond.code y22 Gm 3 none :: ws) Qpc31) (fun a U => a = #[(.ref a0), (.int 1), (.int p2)] ∧ Z.Warmed39 U.vm ∧ U.heap = h0) (fun _ _ _ _ _ => True) (fun _ U o U' => ∃ v L, o = .returned v ∧ own_Q (Rpc31 (fpc31_0 p2 v0 v1 v2 v3 v4 v5)) (Kpc31 Z p2 v0 v1 v2 v3 v4 v5 a0 h0 n0 (fpc31_0 p2 v0 v1 v2 v3 v4 v5)) v U'.heap L ∧ FrameEnd U o U' L Qpc31.cells Qpc31.slots) := by
  refine MetFree.of_bodySF (plainFor_of_name own_pn4) hisR ?_
  intro p e s m args below meth c s₁ Bd hml0 hP hK
  obtain ⟨rfl, hZ, hh⟩ := hP
  have hml : c.maxLocals = 3 := hml0
  have e0 : s₁.heap = h0 := by rw [← hh, Bd.state]; rfl
  exact own_pre (fun t k => castTop (ef_pc31 m a0 p2) k) (gpc31_0 hw p2 v0 v1 v2 v3 v4 v5 a0 Bd hml hZ Gb s₁ (Stand.of_body Bd) e0 SZ0 (Fr.nil n0) (Keep.refl _ _) G0 J0)
abbrev Qpc32 : Room := { frames := 0, cells := 0, slots := 0, locals := 0 }
/-! body 27, pc32 -/
def Rpc32 (t : Unit) : Option Value := none
def Kpc32 (Z : State) (p2 v0 v1 v2 v3 v4 v5 : Int32) (a0 : Addr) (h0 : Heap) (n0 : Nat) (t : Unit) (h : Heap) (L : List Loc) : Prop := Fr n0 L ∧ Keep h0 h [a0] ∧ own_Pv Z h a0 (6 : Int32) [v0, v1, v2, v3, (own_lo p2), (own_hi p2)] .byte ∧ own_J Z h
def fpc32_0 (p2 v0 v1 v2 v3 v4 v5 : Int32) : Unit := ()
set_option maxRecDepth 65536 in
set_option maxHeartbeats 40000000 in
theorem gpc32_0 (hw : HW aw Z) {h0 : Heap} {n0 : Nat} (p2 v0 v1 v2 v3 v4 v5 : Int32) (a0 : Addr)
    (Bd : BodyLoose p l y22 (head1 (Jvm.Cond.code y22 Gm 3 none :: ws) Qpc32) Gm 3 none e s m #[(.ref a0), (.int 2), (.int p2)] below meth c s₁) (hml : c.maxLocals = 3) (hZ : Z.Warmed39 s.vm) (Gb : n0 ≤ a0) (T0 : State) {locs : List Loc} (X0 : Stand p l e Qpc32 s m #[(.ref a0), (.int 2), (.int p2)] below meth c T0 locs 0 0) (e0 : T0.heap = h0) (SZ0 : n0 ≤ h0.size) (NF0 : Fr n0 locs) (KP0 : Keep h0 h0 [a0]) (G0 : own_Pv Z h0 a0 (6 : Int32) [v0, v1, v2, v3, v4, v5] .byte) (J0 : own_J Z h0) :
    own_Go p e below s Qpc32.cells Qpc32.slots (Rpc32 (fpc32_0 p2 v0 v1 v2 v3 v4 v5)) (Kpc32 Z p2 v0 v1 v2 v3 v4 v5 a0 h0 n0 (fpc32_0 p2 v0 v1 v2 v3 v4 v5)) (T0.setTop (mkF m 0 #[rv a0, iv 2, iv p2] [])) := by
  have hx := Bd.exec
  have hby := Bd.bytes
  have hown : s.vm.findClass cU = some m.cls := findClass_of_methodNamed Bd.named
  have hnm := (name_of_methodNamed Bd.named Bd.method).1
  unfold fpc32_0
  obtain ⟨cs, sf, js⟩ := id J0
  obtain ⟨T1, X1, e1, st'⟩ := getS2 X0 hx hZ hown (host := "") (Or.inl (ow hw 120 rfl)) Via.refl e0 js.2.2.1 (g := (mkF m 0 #[rv a0, iv 2, iv p2] [])) rfl (hb hby d27_0)
  refine op T1 (mkF m 3 #[rv a0, iv 2, iv p2] [(.int 1)]) (fun _ k => st' _ k) ?_
  have hc3 : ¬ ((1 : Int32) = (0 : Int32)) := (show ¬ (1 : Int32) = 0 by decide)
  refine op T1 (mkF m 37 #[rv a0, iv 5, iv p2] [(.int 4), (.ref a0)]) (fun _ k => XS.ifYes X1.here hx rfl (pc0 := 3) (pc' := 28) rfl (hb hby d27_3) rfl ((if0 _ _).trans (feq hc3).2) (by decide) (by decide) (XS.iloadN X1.here hx rfl (hb hby d27_28) rfl (XS.iconst X1.here hx rfl (hb hby d27_29) (XS.ishl X1.here hx rfl (hb hby d27_30) rfl (XS.istoreN X1.here hx rfl (hb hby d27_31) rfl (l' := #[rv a0, iv 4, iv p2]) rfl (XS.aloadN X1.here hx rfl (hb hby d27_32) rfl rfl (XS.iloadN X1.here hx rfl (hb hby d27_33) rfl (XS.iinc X1.here hx rfl (hb hby d27_34) rfl (l' := #[rv a0, iv 5, iv p2]) rfl k)))))))) ?_
  refine op T1 (mkF m 38 #[rv a0, iv 5, iv p2] [(.int p2), (.int 4), (.ref a0)]) (fun _ k => XS.iloadN X1.here hx rfl (hb hby d27_37) rfl k) ?_
  obtain ⟨cs, sf, js⟩ := id J0
  obtain ⟨T2, X2, e2, st'⟩ := getS2 X1 hx hZ hown (host := "") (Or.inl (ow hw 121 rfl)) Via.refl e1 js.2.2.2.1 (g := (mkF m 38 #[rv a0, iv 5, iv p2] [(.int p2), (.int 4), (.ref a0)])) rfl (hb hby d27_38)
  refine op T2 (mkF m 43 #[rv a0, iv 5, iv p2] [(.int ((p2 >>> ((0 : Int32) &&& 31)).toInt8.toInt32)), (.int 4), (.ref a0)]) (fun _ k => st' _ (XS.ishr X2.here hx rfl (hb hby d27_41) rfl (XS.i2b X2.here hx rfl (hb hby d27_42) rfl k))) ?_
  obtain ⟨k3, cl3, Ar3, q3, S3, N3, H3, G3⟩ := id G0
  have hin3 : ¬ ((4 : Int32) < 0 ∨ cl3.slots.size ≤ ((4 : Int32)).toNatClampNeg) := inb_of S3 ⟨by decide, by decide⟩
  obtain ⟨T3, h3, X3, e3, W3, st'⟩ := stB X2 hx hZ e2 Ar3 (j := (4 : Int32)) hin3 (g := (mkF m 43 #[rv a0, iv 5, iv p2] [(.int ((p2 >>> ((0 : Int32) &&& 31)).toInt8.toInt32)), (.int 4), (.ref a0)])) rfl rfl (hb hby d27_43)
  have f4 : own_Pv Z h3 a0 (6 : Int32) [v0, v1, v2, v3, (((p2 >>> ((0 : Int32) &&& 31)).toInt8.toInt32).toInt8.toInt32), v5] .byte := ⟨_, Arv.set Ar3 q3 S3 N3 H3 G3 (fits_nar_byte _) W3 4 rfl (Nat.le_of_ble_eq_true rfl)⟩
  have f5 := own_J.wr J0 W3
  have NF3 := Fr.snoc X3 NF0 Gb
  have SZ3 : n0 ≤ h3.size := (Nat.le_trans SZ0 (Keep.of_wr W3).1)
  have KP3 : Keep h0 h3 [a0] := KP0.wr W3 (Or.inl (List.mem_of_getElem? (i := 0) rfl))
  refine op T3 (mkF m 47 #[rv a0, iv 5, iv p2] [(.int p2), (.int 5), (.ref a0)]) (fun _ k => st' _ (XS.aloadN X3.here hx rfl (hb hby d27_44) rfl rfl (XS.iloadN X3.here hx rfl (hb hby d27_45) rfl (XS.iloadN X3.here hx rfl (hb hby d27_46) rfl k)))) ?_
  obtain ⟨cs, sf, js⟩ := id f5
  obtain ⟨T6, X6, e6, st'⟩ := getS2 X3 hx hZ hown (host := "") (Or.inl (ow hw 122 rfl)) Via.refl e3 js.2.2.2.2.1 (g := (mkF m 47 #[rv a0, iv 5, iv p2] [(.int p2), (.int 5), (.ref a0)])) rfl (hb hby d27_47)
  refine op T6 (mkF m 52 #[rv a0, iv 5, iv p2] [(.int ((p2 >>> ((8 : Int32) &&& 31)).toInt8.toInt32)), (.int 5), (.ref a0)]) (fun _ k => st' _ (XS.ishr X6.here hx rfl (hb hby d27_50) rfl (XS.i2b X6.here hx rfl (hb hby d27_51) rfl k))) ?_
  obtain ⟨k7, cl7, Ar7, q7, S7, N7, H7, G7⟩ := id f4
  have hin7 : ¬ ((5 : Int32) < 0 ∨ cl7.slots.size ≤ ((5 : Int32)).toNatClampNeg) := inb_of S7 ⟨by decide, by decide⟩
  obtain ⟨T7, h7, X7, e7, W7, st'⟩ := stB X6 hx hZ e6 Ar7 (j := (5 : Int32)) hin7 (g := (mkF m 52 #[rv a0, iv 5, iv p2] [(.int ((p2 >>> ((8 : Int32) &&& 31)).toInt8.toInt32)), (.int 5), (.ref a0)])) rfl rfl (hb hby d27_52)
  have f8 : own_Pv Z h7 a0 (6 : Int32) [v0, v1, v2, v3, (((p2 >>> ((0 : Int32) &&& 31)).toInt8.toInt32).toInt8.toInt32), (((p2 >>> ((8 : Int32) &&& 31)).toInt8.toInt32).toInt8.toInt32)] .byte := ⟨_, Arv.set Ar7 q7 S7 N7 H7 G7 (fits_nar_byte _) W7 5 rfl (Nat.le_of_ble_eq_true rfl)⟩
  have f9 := own_J.wr f5 W7
  have NF7 := Fr.snoc X7 NF3 Gb
  have SZ7 : n0 ≤ h7.size := (Nat.le_trans SZ3 (Keep.of_wr W7).1)
  have KP7 : Keep h0 h7 [a0] := KP3.wr W7 (Or.inl (List.mem_of_getElem? (i := 0) rfl))
  refine op T7 (mkF m 53 #[rv a0, iv 5, iv p2] []) (fun _ k => st' _ k) ?_
  exact own_retV X7 hx Bd.notSynchronized Bd.returns (hb hby d27_53) (by rw [e7]; exact ⟨NF7, KP7, f8, f9⟩) (by decide) (by decide)
theorem ef_pc32 (m : MethodId) (a0 : Addr) (p2 : Int32) : entryFrame m #[(.ref a0), (.int 2), (.int p2)] 3 = mkF m 0 #[rv a0, iv 2, iv p2] [] := by first | (simp [entryFrame, mkF, argsToLocals, Value.category]; done) | rfl
set_option maxRecDepth 65536 in
set_option maxHeartbeats 40000000 in
theorem rmpc32 (l : Launch) (Z : State) (aw : Array Value) (hw : HW aw Z) (ws : List Jvm.Cond) (p2 v0 v1 v2 v3 v4 v5 : Int32) (a0 : Addr) (h0 : Heap) (n0 : Nat) (SZ0 : n0 ≤ h0.size) (G0 : own_Pv Z h0 a0 (6 : Int32) [v0, v1, v2, v3, v4, v5] .byte) (J0 : own_J Z h0) (Gb : n0 ≤ a0) :
    MetFree l y22 (head1 (Jvm.Cond.code y22 Gm 3 none :: ws) Qpc32) (fun a U => a = #[(.ref a0), (.int 2), (.int p2)] ∧ Z.Warmed39 U.vm ∧ U.heap = h0) (fun _ _ _ _ _ => True) (fun _ U o U' => ∃ v L, o = .returned v ∧ own_Q (Rpc32 (fpc32_0 p2 v0 v1 v2 v3 v4 v5)) (Kpc32 Z p2 v0 v1 v2 v3 v4 v5 a0 h0 n0 (fpc32_0 p2 v0 v1 v2 v3 v4 v5)) v U'.heap L ∧ FrameEnd U o U' L Qpc32.cells Qpc32.slots) := by
  refine MetFree.of_bodySF (plainFor_of_name own_pn4) hisR ?_
  intro p e s m args below meth c s₁ Bd hml0 hP hK
  obtain ⟨rfl, hZ, hh⟩ := hP
  have hml : c.maxLocals = 3 := hml0
  have e0 : s₁.heap = h0 := by rw [← hh, Bd.state]; rfl
  exact own_pre (fun t k => castTop (ef_pc32 m a0 p2) k) (gpc32_0 hw p2 v0 v1 v2 v3 v4 v5 a0 Bd hml hZ Gb s₁ (Stand.of_body Bd) e0 SZ0 (Fr.nil n0) (Keep.refl _ _) G0 J0)
abbrev Qtb3 : Room := { frames := 2, cells := 1, slots := 6, locals := 40 }
/-! body 24, tb3 -/
def Rtb3 (h0 : Heap) (t : Unit) : Option Value := some (.ref h0.size)
def Ktb3 (Z : State) (c0 c1 c2 : Int32) (a0 : Addr) (h0 : Heap) (n0 : Nat) (t : Unit) (h : Heap) (L : List Loc) : Prop := Fr n0 L ∧ Keep h0 h [] ∧ own_Pv Z h h0.size (6 : Int32) [(own_lo c0), (own_hi c0), (own_lo c1), (own_hi c1), (own_lo c2), (own_hi c2)] .byte ∧ own_J Z h
def ftb3_0 (c0 c1 c2 : Int32) : Unit := ()
set_option maxRecDepth 65536 in
set_option maxHeartbeats 40000000 in
theorem gtb3_0 (hw : HW aw Z) {h0 : Heap} {n0 : Nat} (c0 c1 c2 : Int32) (a0 : Addr)
    (Bd : BodyLoose p l y23 (head1 (Jvm.Cond.code y23 Gt 5 (some (.array .byte)) :: ws) Qtb3) Gt 5 (some (.array .byte)) e s m #[(.ref a0), (.int 0), (.int 3)] below meth c s₁) (hml : c.maxLocals = 5) (hZ : Z.Warmed39 s.vm) (T0 : State) {locs : List Loc} (X0 : Stand p l e Qtb3 s m #[(.ref a0), (.int 0), (.int 3)] below meth c T0 locs 0 0) (e0 : T0.heap = h0) (SZ0 : n0 ≤ h0.size) (NF0 : Fr n0 locs) (KP0 : Keep h0 h0 []) (G0 : own_Pv Z h0 a0 (3 : Int32) [c0, c1, c2] .char) (J0 : own_J Z h0) :
    own_Go p e below s Qtb3.cells Qtb3.slots (Rtb3 h0 (ftb3_0 c0 c1 c2)) (Ktb3 Z c0 c1 c2 a0 h0 n0 (ftb3_0 c0 c1 c2)) (T0.setTop (mkF m 0 #[rv a0, iv 0, iv 3, uu, uu] [])) := by
  have hx := Bd.exec
  have hby := Bd.bytes
  have hown : s.vm.findClass cU = some m.cls := findClass_of_methodNamed Bd.named
  have hnm := (name_of_methodNamed Bd.named Bd.method).1
  unfold ftb3_0
  refine op T0 (mkF m 1 #[rv a0, iv 0, iv 3, uu, uu] [(.int 3)]) (fun _ k => XS.iloadN X0.here hx rfl (hb hby d24_0) rfl k) ?_
  obtain ⟨_, _, ⟨T1, L1, k1, n1⟩, -, X1', ⟨Lc1, hQ1, l1, y1, z1⟩, st'⟩ := Jvm.LawKit.callS X0 hx (y := y21) hown (mvT hZ (ow hw 110 rfl)) (mvT hZ (ow hw 111 rfl)) (mvT hZ (ow hw 35 rfl)) (mvT hZ (ow hw 112 rfl)) (by decide) (backOf (W := 0) (rmnf3 l Z aw hw []   h0 n0 SZ0 ) hZ (ow hw 112 rfl) (ow hw 35 rfl) (by decide) (by decide)) (g := (mkF m 1 #[rv a0, iv 0, iv 3, uu, uu] [(.int 3)])) rfl (by rw [hml]; rfl) (argsL := [(.int 3)]) (rest := []) (lenOf own_pd12 rfl) rfl (by show 2 * 0 + _ ≤ _; exact Nat.le_of_eq rfl) (hb hby d24_1) (fun _ _ => ⟨rfl, e0, (by decide : 0 + 1 ≤ _), (by decide : 0 + 6 ≤ _)⟩)
  dsimp only [Pt.U, Pt.locs, Pt.cells, Pt.slots] at X1' l1 y1 z1 st' hQ1
  subst l1 y1 z1
  obtain ⟨rfl, NFq1, KPq1, p1_0⟩ := hQ1
  have X1 : Stand p l e Qtb3 s m #[(.ref a0), (.int 0), (.int 3)] below meth c T1 _ 1 6 := X1'
  have NF1 := Fr.app NF0 NFq1
  have SZ1 : n0 ≤ T1.heap.size := Nat.le_trans SZ0 KPq1.1
  have KP1 : Keep h0 T1.heap [] := KP0.trans KPq1 all0
  obtain ⟨b1, g1⟩ : ∃ z, z = h0.size := ⟨_, rfl⟩
  simp only [Rnf3, ← g1] at st' p1_0
  have Gu : n0 ≤ b1 := Nat.le_trans SZ0 (Nat.le_of_eq g1.symm)
  have Gr : h0.size ≤ b1 := Nat.le_trans KP0.1 (Nat.le_of_eq g1.symm)
  have Go : a0 ≠ b1 := Nat.ne_of_lt (Nat.lt_of_lt_of_le G0.lt (Nat.le_of_eq g1.symm))
  have f2 := G0.keep KPq1 nin0
  have f3 := own_J.keep J0 KPq1
  refine op T1 (mkF m 11 #[rv a0, iv 0, iv 3, rv b1, iv 0] [(.int 3), (.int 0)]) (fun _ k => st' _ (XS.astoreN X1.here hx rfl (hb hby d24_4) rfl rfl (l' := #[rv a0, iv 0, iv 3, rv b1, uu]) rfl (XS.iconst X1.here hx rfl (hb hby d24_5) (XS.istore X1.here hx rfl (hb hby d24_6) rfl (l' := #[rv a0, iv 0, iv 3, rv b1, iv 0]) rfl (XS.iload X1.here hx rfl (hb hby d24_8) rfl (XS.iloadN X1.here hx rfl (hb hby d24_10) rfl k)))))) ?_
  have hd4 : (0 : Int32) < (3 : Int32) := by decide
  refine op T1 (mkF m 19 #[rv a0, iv 0, iv 3, rv b1, iv 0] [(.int 0), (.ref a0), (.int 0), (.ref b1)]) (fun _ k => XS.icmpNo X1.here hx rfl (hb hby d24_11) rfl (tlt hd4).2.1 (XS.aloadN X1.here hx rfl (hb hby d24_14) rfl rfl (XS.iload X1.here hx rfl (hb hby d24_15) rfl (XS.aloadN X1.here hx rfl (hb hby d24_17) rfl rfl (XS.iloadN X1.here hx rfl (hb hby d24_18) rfl k))))) ?_
  obtain ⟨k5, cl5, Ar5, q5, S5, N5, H5, G5⟩ := id f2
  have hin5 : ¬ ((0 : Int32) < 0 ∨ cl5.slots.size ≤ ((0 : Int32)).toNatClampNeg) := inb_of S5 ⟨by decide, by decide⟩
  refine op T1 (mkF m 20 #[rv a0, iv 0, iv 3, rv b1, iv 0] [(.int c0), (.int 0), (.ref b1)]) (fun t k => X1.caload hx (j := (0 : Int32)) (v := (.int c0)) (by rw [(rfl : T1.heap = T1.heap)]; exact Ar5.1) (State.isArrayOf_alike hZ.alike Ar5.2.1) Ar5.2.2 hin5 (H5.at hin5 rfl) (g := (mkF m 19 #[rv a0, iv 0, iv 3, rv b1, iv 0] [(.int 0), (.ref a0), (.int 0), (.ref b1)])) rfl rfl (hb hby d24_19) t k) ?_
  obtain ⟨_, _, ⟨T6, L6, k6, n6⟩, -, X6', ⟨Lc6, hQ6, l6, y6, z6⟩, st'⟩ := Jvm.LawKit.callS X1 hx (y := y22) hown (mvT hZ (ow hw 117 rfl)) (mvT hZ (ow hw 118 rfl)) (mvT hZ (ow hw 35 rfl)) (mvT hZ (ow hw 119 rfl)) (by decide) (backOf (W := 0) (rmpc30 l Z aw hw [] c0 (0 : Int32) (0 : Int32) (0 : Int32) (0 : Int32) (0 : Int32) (0 : Int32) b1 T1.heap n0 SZ1 p1_0 f3 Gu) hZ (ow hw 119 rfl) (ow hw 35 rfl) (by decide) (by decide)) (g := (mkF m 20 #[rv a0, iv 0, iv 3, rv b1, iv 0] [(.int c0), (.int 0), (.ref b1)])) rfl (by rw [hml]; rfl) (argsL := [(.ref b1), (.int 0), (.int c0)]) (rest := []) (lenOf own_pd13 rfl) rfl (by show 2 * 0 + _ ≤ _; exact Nat.le_of_eq rfl) (hb hby d24_20) (fun _ _ => ⟨rfl, (rfl : T1.heap = T1.heap), (by decide : 1 + 0 ≤ _), (by decide : 6 + 0 ≤ _)⟩)
  dsimp only [Pt.U, Pt.locs, Pt.cells, Pt.slots] at X6' l6 y6 z6 st' hQ6
  subst l6 y6 z6
  obtain ⟨rfl, NFq6, KPq6, p6_0, p6_1⟩ := hQ6
  have X6 : Stand p l e Qtb3 s m #[(.ref a0), (.int 0), (.int 3)] below meth c T6 _ 1 6 := X6'
  have NF6 := Fr.app NF1 NFq6
  have SZ6 : n0 ≤ T6.heap.size := Nat.le_trans SZ1 KPq6.1
  have KP6 : Keep h0 T6.heap [] := KP1.trans KPq6 (allS (Or.inr Gr) all0)
  have f7 := f2.keep KPq6 (ninS Go nin0)
  refine op T6 (mkF m 11 #[rv a0, iv 1, iv 3, rv b1, iv 1] [(.int 3), (.int 1)]) (fun _ k => st' _ (XS.iinc X6.here hx rfl (hb hby d24_23) rfl (l' := #[rv a0, iv 1, iv 3, rv b1, iv 0]) rfl (XS.iinc X6.here hx rfl (hb hby d24_26) rfl (l' := #[rv a0, iv 1, iv 3, rv b1, iv 1]) rfl (XS.goto X6.here hx rfl (pc0 := 29) (pc' := 8) rfl (hb hby d24_29) (by decide) (by decide) (XS.iload X6.here hx rfl (hb hby d24_8) rfl (XS.iloadN X6.here hx rfl (hb hby d24_10) rfl k)))))) ?_
  have hd8 : (1 : Int32) < (3 : Int32) := by decide
  refine op T6 (mkF m 19 #[rv a0, iv 1, iv 3, rv b1, iv 1] [(.int 1), (.ref a0), (.int 1), (.ref b1)]) (fun _ k => XS.icmpNo X6.here hx rfl (hb hby d24_11) rfl (tlt hd8).2.1 (XS.aloadN X6.here hx rfl (hb hby d24_14) rfl rfl (XS.iload X6.here hx rfl (hb hby d24_15) rfl (XS.aloadN X6.here hx rfl (hb hby d24_17) rfl rfl (XS.iloadN X6.here hx rfl (hb hby d24_18) rfl k))))) ?_
  obtain ⟨k9, cl9, Ar9, q9, S9, N9, H9, G9⟩ := id f7
  have hin9 : ¬ ((1 : Int32) < 0 ∨ cl9.slots.size ≤ ((1 : Int32)).toNatClampNeg) := inb_of S9 ⟨by decide, by decide⟩
  refine op T6 (mkF m 20 #[rv a0, iv 1, iv 3, rv b1, iv 1] [(.int c1), (.int 1), (.ref b1)]) (fun t k => X6.caload hx (j := (1 : Int32)) (v := (.int c1)) (by rw [(rfl : T6.heap = T6.heap)]; exact Ar9.1) (State.isArrayOf_alike hZ.alike Ar9.2.1) Ar9.2.2 hin9 (H9.at hin9 rfl) (g := (mkF m 19 #[rv a0, iv 1, iv 3, rv b1, iv 1] [(.int 1), (.ref a0), (.int 1), (.ref b1)])) rfl rfl (hb hby d24_19) t k) ?_
  obtain ⟨_, _, ⟨T10, L10, k10, n10⟩, -, X10', ⟨Lc10, hQ10, l10, y10, z10⟩, st'⟩ := Jvm.LawKit.callS X6 hx (y := y22) hown (mvT hZ (ow hw 117 rfl)) (mvT hZ (ow hw 118 rfl)) (mvT hZ (ow hw 35 rfl)) (mvT hZ (ow hw 119 rfl)) (by decide) (backOf (W := 0) (rmpc31 l Z aw hw [] c1 (own_lo c0) (own_hi c0) (0 : Int32) (0 : Int32) (0 : Int32) (0 : Int32) b1 T6.heap n0 SZ6 p6_0 p6_1 Gu) hZ (ow hw 119 rfl) (ow hw 35 rfl) (by decide) (by decide)) (g := (mkF m 20 #[rv a0, iv 1, iv 3, rv b1, iv 1] [(.int c1), (.int 1), (.ref b1)])) rfl (by rw [hml]; rfl) (argsL := [(.ref b1), (.int 1), (.int c1)]) (rest := []) (lenOf own_pd13 rfl) rfl (by show 2 * 0 + _ ≤ _; exact Nat.le_of_eq rfl) (hb hby d24_20) (fun _ _ => ⟨rfl, (rfl : T6.heap = T6.heap), (by decide : 1 + 0 ≤ _), (by decide : 6 + 0 ≤ _)⟩)
  dsimp only [Pt.U, Pt.locs, Pt.cells, Pt.slots] at X10' l10 y10 z10 st' hQ10
  subst l10 y10 z10
  obtain ⟨rfl, NFq10, KPq10, p10_0, p10_1⟩ := hQ10
  have X10 : Stand p l e Qtb3 s m #[(.ref a0), (.int 0), (.int 3)] below meth c T10 _ 1 6 := X10'
  have NF10 := Fr.app NF6 NFq10
  have SZ10 : n0 ≤ T10.heap.size := Nat.le_trans SZ6 KPq10.1
  have KP10 : Keep h0 T10.heap [] := KP6.trans KPq10 (allS (Or.inr Gr) all0)
  have f11 := f7.keep KPq10 (ninS Go nin0)
  refine op T10 (mkF m 11 #[rv a0, iv 2, iv 3, rv b1, iv 2] [(.int 3), (.int 2)]) (fun _ k => st' _ (XS.iinc X10.here hx rfl (hb hby d24_23) rfl (l' := #[rv a0, iv 2, iv 3, rv b1, iv 1]) rfl (XS.iinc X10.here hx rfl (hb hby d24_26) rfl (l' := #[rv a0, iv 2, iv 3, rv b1, iv 2]) rfl (XS.goto X10.here hx rfl (pc0 := 29) (pc' := 8) rfl (hb hby d24_29) (by decide) (by decide) (XS.iload X10.here hx rfl (hb hby d24_8) rfl (XS.iloadN X10.here hx rfl (hb hby d24_10) rfl k)))))) ?_
  have hd12 : (2 : Int32) < (3 : Int32) := by decide
  refine op T10 (mkF m 19 #[rv a0, iv 2, iv 3, rv b1, iv 2] [(.int 2), (.ref a0), (.int 2), (.ref b1)]) (fun _ k => XS.icmpNo X10.here hx rfl (hb hby d24_11) rfl (tlt hd12).2.1 (XS.aloadN X10.here hx rfl (hb hby d24_14) rfl rfl (XS.iload X10.here hx rfl (hb hby d24_15) rfl (XS.aloadN X10.here hx rfl (hb hby d24_17) rfl rfl (XS.iloadN X10.here hx rfl (hb hby d24_18) rfl k))))) ?_
  obtain ⟨k13, cl13, Ar13, q13, S13, N13, H13, G13⟩ := id f11
  have hin13 : ¬ ((2 : Int32) < 0 ∨ cl13.slots.size ≤ ((2 : Int32)).toNatClampNeg) := inb_of S13 ⟨by decide, by decide⟩
  refine op T10 (mkF m 20 #[rv a0, iv 2, iv 3, rv b1, iv 2] [(.int c2), (.int 2), (.ref b1)]) (fun t k => X10.caload hx (j := (2 : Int32)) (v := (.int c2)) (by rw [(rfl : T10.heap = T10.heap)]; exact Ar13.1) (State.isArrayOf_alike hZ.alike Ar13.2.1) Ar13.2.2 hin13 (H13.at hin13 rfl) (g := (mkF m 19 #[rv a0, iv 2, iv 3, rv b1, iv 2] [(.int 2), (.ref a0), (.int 2), (.ref b1)])) rfl rfl (hb hby d24_19) t k) ?_
  obtain ⟨_, _, ⟨T14, L14, k14, n14⟩, -, X14', ⟨Lc14, hQ14, l14, y14, z14⟩, st'⟩ := Jvm.LawKit.callS X10 hx (y := y22) hown (mvT hZ (ow hw 117 rfl)) (mvT hZ (ow hw 118 rfl)) (mvT hZ (ow hw 35 rfl)) (mvT hZ (ow hw 119 rfl)) (by decide) (backOf (W := 0) (rmpc32 l Z aw hw [] c2 (own_lo c0) (own_hi c0) (own_lo c1) (own_hi c1) (0 : Int32) (0 : Int32) b1 T10.heap n0 SZ10 p10_0 p10_1 Gu) hZ (ow hw 119 rfl) (ow hw 35 rfl) (by decide) (by decide)) (g := (mkF m 20 #[rv a0, iv 2, iv 3, rv b1, iv 2] [(.int c2), (.int 2), (.ref b1)])) rfl (by rw [hml]; rfl) (argsL := [(.ref b1), (.int 2), (.int c2)]) (rest := []) (lenOf own_pd13 rfl) rfl (by show 2 * 0 + _ ≤ _; exact Nat.le_of_eq rfl) (hb hby d24_20) (fun _ _ => ⟨rfl, (rfl : T10.heap = T10.heap), (by decide : 1 + 0 ≤ _), (by decide : 6 + 0 ≤ _)⟩)
  dsimp only [Pt.U, Pt.locs, Pt.cells, Pt.slots] at X14' l14 y14 z14 st' hQ14
  subst l14 y14 z14
  obtain ⟨rfl, NFq14, KPq14, p14_0, p14_1⟩ := hQ14
  have X14 : Stand p l e Qtb3 s m #[(.ref a0), (.int 0), (.int 3)] below meth c T14 _ 1 6 := X14'
  have NF14 := Fr.app NF10 NFq14
  have SZ14 : n0 ≤ T14.heap.size := Nat.le_trans SZ10 KPq14.1
  have KP14 : Keep h0 T14.heap [] := KP10.trans KPq14 (allS (Or.inr Gr) all0)
  have f15 := f11.keep KPq14 (ninS Go nin0)
  refine op T14 (mkF m 11 #[rv a0, iv 3, iv 3, rv b1, iv 3] [(.int 3), (.int 3)]) (fun _ k => st' _ (XS.iinc X14.here hx rfl (hb hby d24_23) rfl (l' := #[rv a0, iv 3, iv 3, rv b1, iv 2]) rfl (XS.iinc X14.here hx rfl (hb hby d24_26) rfl (l' := #[rv a0, iv 3, iv 3, rv b1, iv 3]) rfl (XS.goto X14.here hx rfl (pc0 := 29) (pc' := 8) rfl (hb hby d24_29) (by decide) (by decide) (XS.iload X14.here hx rfl (hb hby d24_8) rfl (XS.iloadN X14.here hx rfl (hb hby d24_10) rfl k)))))) ?_
  have hd16 : ¬ ((3 : Int32) < (3 : Int32)) := by decide
  refine op T14 (mkF m 33 #[rv a0, iv 3, iv 3, rv b1, iv 3] [(.ref b1)]) (fun _ k => XS.icmpYes X14.here hx rfl (pc0 := 11) (pc' := 32) rfl (hb hby d24_11) rfl (flt hd16).2.1 (by decide) (by decide) (XS.aloadN X14.here hx rfl (hb hby d24_32) rfl rfl k)) ?_
  subst g1
  exact own_ret (w := (.ref h0.size)) X14 hx Bd.notSynchronized Bd.returns rfl (Or.inr (Or.inr ⟨rfl, rfl, rfl⟩)) (hb hby d24_33) ⟨NF14, KP14, p14_0, p14_1⟩ (by decide) (by decide)
theorem ef_tb3 (m : MethodId) (a0 : Addr) : entryFrame m #[(.ref a0), (.int 0), (.int 3)] 5 = mkF m 0 #[rv a0, iv 0, iv 3, uu, uu] [] := by first | (simp [entryFrame, mkF, argsToLocals, Value.category]; done) | rfl
set_option maxRecDepth 65536 in
set_option maxHeartbeats 40000000 in
theorem rmtb3 (l : Launch) (Z : State) (aw : Array Value) (hw : HW aw Z) (ws : List Jvm.Cond) (c0 c1 c2 : Int32) (a0 : Addr) (h0 : Heap) (n0 : Nat) (SZ0 : n0 ≤ h0.size) (G0 : own_Pv Z h0 a0 (3 : Int32) [c0, c1, c2] .char) (J0 : own_J Z h0) :
    MetFree l y23 (head1 (Jvm.Cond.code y23 Gt 5 (some (.array .byte)) :: ws) Qtb3) (fun a U => a = #[(.ref a0), (.int 0), (.int 3)] ∧ Z.Warmed39 U.vm ∧ U.heap = h0) (fun _ _ _ _ _ => True) (fun _ U o U' => ∃ v L, o = .returned v ∧ own_Q (Rtb3 h0 (ftb3_0 c0 c1 c2)) (Ktb3 Z c0 c1 c2 a0 h0 n0 (ftb3_0 c0 c1 c2)) v U'.heap L ∧ FrameEnd U o U' L Qtb3.cells Qtb3.slots) := by
  refine MetFree.of_bodySF (plainFor_of_name own_pn4) hisR ?_
  intro p e s m args below meth c s₁ Bd hml0 hP hK
  obtain ⟨rfl, hZ, hh⟩ := hP
  have hml : c.maxLocals = 5 := hml0
  have e0 : s₁.heap = h0 := by rw [← hh, Bd.state]; rfl
  exact own_pre (fun t k => castTop (ef_tb3 m a0) k) (gtb3_0 hw c0 c1 c2 a0 Bd hml hZ s₁ (Stand.of_body Bd) e0 SZ0 (Fr.nil n0) (Keep.refl _ _) G0 J0)
abbrev Qc2L3 : Room := { frames := 0, cells := 0, slots := 0, locals := 0 }
/-! body 7, c2L3 -/
def Rc2L3 (t : Int32) : Option Value := some (.int t)
def Kc2L3 (Z : State) (c0 c1 c2 : Int32) (a0 a2 : Addr) (h0 : Heap) (n0 : Nat) (t : Int32) (h : Heap) (L : List Loc) : Prop := Fr n0 L ∧ Keep h0 h [a2] ∧ own_Pv Z h a2 (3 : Int32) [(own_by c0), (own_by c1), (own_by c2)] .byte ∧ own_J Z h
def fc2L3_0 (c0 c1 c2 : Int32) : Int32 := (3 : Int32)
set_option maxRecDepth 65536 in
set_option maxHeartbeats 40000000 in
theorem gc2L3_0 (hw : HW aw Z) {h0 : Heap} {n0 : Nat} (c0 c1 c2 : Int32) (a0 a2 : Addr) (Gv : a0 ≠ a2) (hL0 : ¬ (255 : Int32) < c0) (hL1 : ¬ (255 : Int32) < c1) (hL2 : ¬ (255 : Int32) < c2)
    (Bd : BodyLoose p l y24 (head1 (Jvm.Cond.code y24 Gj 7 (some .int) :: ws) Qc2L3) Gj 7 (some .int) e s m #[(.ref a0), (.int 0), (.ref a2), (.int 0), (.int 3)] below meth c s₁) (hml : c.maxLocals = 7) (hZ : Z.Warmed39 s.vm) (Gn : n0 ≤ a2) (T0 : State) {locs : List Loc} (X0 : Stand p l e Qc2L3 s m #[(.ref a0), (.int 0), (.ref a2), (.int 0), (.int 3)] below meth c T0 locs 0 0) (e0 : T0.heap = h0) (SZ0 : n0 ≤ h0.size) (NF0 : Fr n0 locs) (KP0 : Keep h0 h0 [a2]) (G0 : own_Pv Z h0 a0 (3 : Int32) [c0, c1, c2] .char) (Gp : own_Pv Z h0 a2 (3 : Int32) [(0 : Int32), (0 : Int32), (0 : Int32)] .byte) (J0 : own_J Z h0) :
    own_Go p e below s Qc2L3.cells Qc2L3.slots (Rc2L3 (fc2L3_0 c0 c1 c2)) (Kc2L3 Z c0 c1 c2 a0 a2 h0 n0 (fc2L3_0 c0 c1 c2)) (T0.setTop (mkF m 0 #[rv a0, iv 0, rv a2, iv 0, iv 3, uu, uu] [])) := by
  have hx := Bd.exec
  have hby := Bd.bytes
  have hown : s.vm.findClass cU = some m.cls := findClass_of_methodNamed Bd.named
  have hnm := (name_of_methodNamed Bd.named Bd.method).1
  unfold fc2L3_0
  refine op T0 (mkF m 7 #[rv a0, iv 0, rv a2, iv 0, iv 3, iv 0, uu] [(.int 3), (.int 0)]) (fun _ k => XS.iconst X0.here hx rfl (hb hby d7_0) (XS.istore X0.here hx rfl (hb hby d7_1) rfl (l' := #[rv a0, iv 0, rv a2, iv 0, iv 3, iv 0, uu]) rfl (XS.iload X0.here hx rfl (hb hby d7_3) rfl (XS.iload X0.here hx rfl (hb hby d7_5) rfl k)))) ?_
  have hd1 : (0 : Int32) < (3 : Int32) := by decide
  refine op T0 (mkF m 12 #[rv a0, iv 0, rv a2, iv 0, iv 3, iv 0, uu] [(.int 0), (.ref a0)]) (fun _ k => XS.icmpNo X0.here hx rfl (hb hby d7_7) rfl (tlt hd1).2.1 (XS.aloadN X0.here hx rfl (hb hby d7_10) rfl rfl (XS.iloadN X0.here hx rfl (hb hby d7_11) rfl k))) ?_
  obtain ⟨k2, cl2, Ar2, q2, S2, N2, H2, G2⟩ := id G0
  have hin2 : ¬ ((0 : Int32) < 0 ∨ cl2.slots.size ≤ ((0 : Int32)).toNatClampNeg) := inb_of S2 ⟨by decide, by decide⟩
  refine op T0 (mkF m 13 #[rv a0, iv 0, rv a2, iv 0, iv 3, iv 0, uu] [(.int c0)]) (fun t k => X0.caload hx (j := (0 : Int32)) (v := (.int c0)) (by rw [e0]; exact Ar2.1) (State.isArrayOf_alike hZ.alike Ar2.2.1) Ar2.2.2 hin2 (H2.at hin2 rfl) (g := (mkF m 12 #[rv a0, iv 0, rv a2, iv 0, iv 3, iv 0, uu] [(.int 0), (.ref a0)])) rfl rfl (hb hby d7_12) t k) ?_
  refine op T0 (mkF m 20 #[rv a0, iv 0, rv a2, iv 0, iv 3, iv 0, iv c0] [(.int 255), (.int c0)]) (fun _ k => XS.istore X0.here hx rfl (hb hby d7_13) rfl (l' := #[rv a0, iv 0, rv a2, iv 0, iv 3, iv 0, iv c0]) rfl (XS.iload X0.here hx rfl (hb hby d7_15) rfl (XS.sipush X0.here hx rfl (hb hby d7_17) k))) ?_
  have hc20 : ¬ ((255 : Int32) < c0) := hL0
  refine op T0 (mkF m 31 #[rv a0, iv 0, rv a2, iv 0, iv 3, iv 0, iv c0] [(.int (c0.toInt8.toInt32)), (.int 0), (.ref a2)]) (fun _ k => XS.icmpYes X0.here hx rfl (pc0 := 20) (pc' := 26) rfl (hb hby d7_20) rfl (flt hc20).2.2.2 (by decide) (by decide) (XS.aloadN X0.here hx rfl (hb hby d7_26) rfl rfl (XS.iloadN X0.here hx rfl (hb hby d7_27) rfl (XS.iload X0.here hx rfl (hb hby d7_28) rfl (XS.i2b X0.here hx rfl (hb hby d7_30) rfl k))))) ?_
  obtain ⟨k3, cl3, Ar3, q3, S3, N3, H3, G3⟩ := id Gp
  have hin3 : ¬ ((0 : Int32) < 0 ∨ cl3.slots.size ≤ ((0 : Int32)).toNatClampNeg) := inb_of S3 ⟨by decide, by decide⟩
  obtain ⟨T3, h3, X3, e3, W3, st'⟩ := stB X0 hx hZ e0 Ar3 (j := (0 : Int32)) hin3 (g := (mkF m 31 #[rv a0, iv 0, rv a2, iv 0, iv 3, iv 0, iv c0] [(.int (c0.toInt8.toInt32)), (.int 0), (.ref a2)])) rfl rfl (hb hby d7_31)
  have f4 : own_Pv Z h3 a2 (3 : Int32) [((c0.toInt8.toInt32).toInt8.toInt32), (0 : Int32), (0 : Int32)] .byte := ⟨_, Arv.set Ar3 q3 S3 N3 H3 G3 (fits_nar_byte _) W3 0 rfl (Nat.le_of_ble_eq_true rfl)⟩
  have f5 := G0.other W3 Gv
  have f6 := own_J.wr J0 W3
  have NF3 := Fr.snoc X3 NF0 Gn
  have SZ3 : n0 ≤ h3.size := (Nat.le_trans SZ0 (Keep.of_wr W3).1)
  have KP3 : Keep h0 h3 [a2] := KP0.wr W3 (Or.inl (List.mem_of_getElem? (i := 0) rfl))
  refine op T3 (mkF m 7 #[rv a0, iv 1, rv a2, iv 1, iv 3, iv 1, iv c0] [(.int 3), (.int 1)]) (fun _ k => st' _ (XS.iinc X3.here hx rfl (hb hby d7_32) rfl (l' := #[rv a0, iv 1, rv a2, iv 0, iv 3, iv 0, iv c0]) rfl (XS.iinc X3.here hx rfl (hb hby d7_35) rfl (l' := #[rv a0, iv 1, rv a2, iv 1, iv 3, iv 0, iv c0]) rfl (XS.iinc X3.here hx rfl (hb hby d7_38) rfl (l' := #[rv a0, iv 1, rv a2, iv 1, iv 3, iv 1, iv c0]) rfl (XS.goto X3.here hx rfl (pc0 := 41) (pc' := 3) rfl (hb hby d7_41) (by decide) (by decide) (XS.iload X3.here hx rfl (hb hby d7_3) rfl (XS.iload X3.here hx rfl (hb hby d7_5) rfl k))))))) ?_
  have hd7 : (1 : Int32) < (3 : Int32) := by decide
  refine op T3 (mkF m 12 #[rv a0, iv 1, rv a2, iv 1, iv 3, iv 1, iv c0] [(.int 1), (.ref a0)]) (fun _ k => XS.icmpNo X3.here hx rfl (hb hby d7_7) rfl (tlt hd7).2.1 (XS.aloadN X3.here hx rfl (hb hby d7_10) rfl rfl (XS.iloadN X3.here hx rfl (hb hby d7_11) rfl k))) ?_
  obtain ⟨k8, cl8, Ar8, q8, S8, N8, H8, G8⟩ := id f5
  have hin8 : ¬ ((1 : Int32) < 0 ∨ cl8.slots.size ≤ ((1 : Int32)).toNatClampNeg) := inb_of S8 ⟨by decide, by decide⟩
  refine op T3 (mkF m 13 #[rv a0, iv 1, rv a2, iv 1, iv 3, iv 1, iv c0] [(.int c1)]) (fun t k => X3.caload hx (j := (1 : Int32)) (v := (.int c1)) (by rw [e3]; exact Ar8.1) (State.isArrayOf_alike hZ.alike Ar8.2.1) Ar8.2.2 hin8 (H8.at hin8 rfl) (g := (mkF m 12 #[rv a0, iv 1, rv a2, iv 1, iv 3, iv 1, iv c0] [(.int 1), (.ref a0)])) rfl rfl (hb hby d7_12) t k) ?_
  refine op T3 (mkF m 20 #[rv a0, iv 1, rv a2, iv 1, iv 3, iv 1, iv c1] [(.int 255), (.int c1)]) (fun _ k => XS.istore X3.here hx rfl (hb hby d7_13) rfl (l' := #[rv a0, iv 1, rv a2, iv 1, iv 3, iv 1, iv c1]) rfl (XS.iload X3.here hx rfl (hb hby d7_15) rfl (XS.sipush X3.here hx rfl (hb hby d7_17) k))) ?_
  have hc20 : ¬ ((255 : Int32) < c1) := hL1
  refine op T3 (mkF m 31 #[rv a0, iv 1, rv a2, iv 1, iv 3, iv 1, iv c1] [(.int (c1.toInt8.toInt32)), (.int 1), (.ref a2)]) (fun _ k => XS.icmpYes X3.here hx rfl (pc0 := 20) (pc' := 26) rfl (hb hby d7_20) rfl (flt hc20).2.2.2 (by decide) (by decide) (XS.aloadN X3.here hx rfl (hb hby d7_26) rfl rfl (XS.iloadN X3.here hx rfl (hb hby d7_27) rfl (XS.iload X3.here hx rfl (hb hby d7_28) rfl (XS.i2b X3.here hx rfl (hb hby d7_30) rfl k))))) ?_
  obtain ⟨k9, cl9, Ar9, q9, S9, N9, H9, G9⟩ := id f4
  have hin9 : ¬ ((1 : Int32) < 0 ∨ cl9.slots.size ≤ ((1 : Int32)).toNatClampNeg) := inb_of S9 ⟨by decide, by decide⟩
  obtain ⟨T9, h9, X9, e9, W9, st'⟩ := stB X3 hx hZ e3 Ar9 (j := (1 : Int32)) hin9 (g := (mkF m 31 #[rv a0, iv 1, rv a2, iv 1, iv 3, iv 1, iv c1] [(.int (c1.toInt8.toInt32)), (.int 1), (.ref a2)])) rfl rfl (hb hby d7_31)
  have f10 : own_Pv Z h9 a2 (3 : Int32) [((c0.toInt8.toInt32).toInt8.toInt32), ((c1.toInt8.toInt32).toInt8.toInt32), (0 : Int32)] .byte := ⟨_, Arv.set Ar9 q9 S9 N9 H9 G9 (fits_nar_byte _) W9 1 rfl (Nat.le_of_ble_eq_true rfl)⟩
  have f11 := f5.other W9 Gv
  have f12 := own_J.wr f6 W9
  have NF9 := Fr.snoc X9 NF3 Gn
  have SZ9 : n0 ≤ h9.size := (Nat.le_trans SZ3 (Keep.of_wr W9).1)
  have KP9 : Keep h0 h9 [a2] := KP3.wr W9 (Or.inl (List.mem_of_getElem? (i := 0) rfl))
  refine op T9 (mkF m 7 #[rv a0, iv 2, rv a2, iv 2, iv 3, iv 2, iv c1] [(.int 3), (.int 2)]) (fun _ k => st' _ (XS.iinc X9.here hx rfl (hb hby d7_32) rfl (l' := #[rv a0, iv 2, rv a2, iv 1, iv 3, iv 1, iv c1]) rfl (XS.iinc X9.here hx rfl (hb hby d7_35) rfl (l' := #[rv a0, iv 2, rv a2, iv 2, iv 3, iv 1, iv c1]) rfl (XS.iinc X9.here hx rfl (hb hby d7_38) rfl (l' := #[rv a0, iv 2, rv a2, iv 2, iv 3, iv 2, iv c1]) rfl (XS.goto X9.here hx rfl (pc0 := 41) (pc' := 3) rfl (hb hby d7_41) (by decide) (by decide) (XS.iload X9.here hx rfl (hb hby d7_3) rfl (XS.iload X9.here hx rfl (hb hby d7_5) rfl k))))))) ?_
  have hd13 : (2 : Int32) < (3 : Int32) := by decide
  refine op T9 (mkF m 12 #[rv a0, iv 2, rv a2, iv 2, iv 3, iv 2, iv c1] [(.int 2), (.ref a0)]) (fun _ k => XS.icmpNo X9.here hx rfl (hb hby d7_7) rfl (tlt hd13).2.1 (XS.aloadN X9.here hx rfl (hb hby d7_10) rfl rfl (XS.iloadN X9.here hx rfl (hb hby d7_11) rfl k))) ?_
  obtain ⟨k14, cl14, Ar14, q14, S14, N14, H14, G14⟩ := id f11
  have hin14 : ¬ ((2 : Int32) < 0 ∨ cl14.slots.size ≤ ((2 : Int32)).toNatClampNeg) := inb_of S14 ⟨by decide, by decide⟩
  refine op T9 (mkF m 13 #[rv a0, iv 2, rv a2, iv 2, iv 3, iv 2, iv c1] [(.int c2)]) (fun t k => X9.caload hx (j := (2 : Int32)) (v := (.int c2)) (by rw [e9]; exact Ar14.1) (State.isArrayOf_alike hZ.alike Ar14.2.1) Ar14.2.2 hin14 (H14.at hin14 rfl) (g := (mkF m 12 #[rv a0, iv 2, rv a2, iv 2, iv 3, iv 2, iv c1] [(.int 2), (.ref a0)])) rfl rfl (hb hby d7_12) t k) ?_
  refine op T9 (mkF m 20 #[rv a0, iv 2, rv a2, iv 2, iv 3, iv 2, iv c2] [(.int 255), (.int c2)]) (fun _ k => XS.istore X9.here hx rfl (hb hby d7_13) rfl (l' := #[rv a0, iv 2, rv a2, iv 2, iv 3, iv 2, iv c2]) rfl (XS.iload X9.here hx rfl (hb hby d7_15) rfl (XS.sipush X9.here hx rfl (hb hby d7_17) k))) ?_
  have hc20 : ¬ ((255 : Int32) < c2) := hL2
  refine op T9 (mkF m 31 #[rv a0, iv 2, rv a2, iv 2, iv 3, iv 2, iv c2] [(.int (c2.toInt8.toInt32)), (.int 2), (.ref a2)]) (fun _ k => XS.icmpYes X9.here hx rfl (pc0 := 20) (pc' := 26) rfl (hb hby d7_20) rfl (flt hc20).2.2.2 (by decide) (by decide) (XS.aloadN X9.here hx rfl (hb hby d7_26) rfl rfl (XS.iloadN X9.here hx rfl (hb hby d7_27) rfl (XS.iload X9.here hx rfl (hb hby d7_28) rfl (XS.i2b X9.here hx rfl (hb hby d7_30) rfl k))))) ?_
  obtain ⟨k15, cl15, Ar15, q15, S15, N15, H15, G15⟩ := id f10
  have hin15 : ¬ ((2 : Int32) < 0 ∨ cl15.slots.size ≤ ((2 : Int32)).toNatClampNeg) := inb_of S15 ⟨by decide, by decide⟩
  obtain ⟨T15, h15, X15, e15, W15, st'⟩ := stB X9 hx hZ e9 Ar15 (j := (2 : Int32)) hin15 (g := (mkF m 31 #[rv a0, iv 2, rv a2, iv 2, iv 3, iv 2, iv c2] [(.int (c2.toInt8.toInt32)), (.int 2), (.ref a2)])) rfl rfl (hb hby d7_31)
  have f16 : own_Pv Z h15 a2 (3 : Int32) [((c0.toInt8.toInt32).toInt8.toInt32), ((c1.toInt8.toInt32).toInt8.toInt32), ((c2.toInt8.toInt32).toInt8.toInt32)] .byte := ⟨_, Arv.set Ar15 q15 S15 N15 H15 G15 (fits_nar_byte _) W15 2 rfl (Nat.le_of_ble_eq_true rfl)⟩
  have f17 := f11.other W15 Gv
  have f18 := own_J.wr f12 W15
  have NF15 := Fr.snoc X15 NF9 Gn
  have SZ15 : n0 ≤ h15.size := (Nat.le_trans SZ9 (Keep.of_wr W15).1)
  have KP15 : Keep h0 h15 [a2] := KP9.wr W15 (Or.inl (List.mem_of_getElem? (i := 0) rfl))
  refine op T15 (mkF m 7 #[rv a0, iv 3, rv a2, iv 3, iv 3, iv 3, iv c2] [(.int 3), (.int 3)]) (fun _ k => st' _ (XS.iinc X15.here hx rfl (hb hby d7_32) rfl (l' := #[rv a0, iv 3, rv a2, iv 2, iv 3, iv 2, iv c2]) rfl (XS.iinc X15.here hx rfl (hb hby d7_35) rfl (l' := #[rv a0, iv 3, rv a2, iv 3, iv 3, iv 2, iv c2]) rfl (XS.iinc X15.here hx rfl (hb hby d7_38) rfl (l' := #[rv a0, iv 3, rv a2, iv 3, iv 3, iv 3, iv c2]) rfl (XS.goto X15.here hx rfl (pc0 := 41) (pc' := 3) rfl (hb hby d7_41) (by decide) (by decide) (XS.iload X15.here hx rfl (hb hby d7_3) rfl (XS.iload X15.here hx rfl (hb hby d7_5) rfl k))))))) ?_
  have hd19 : ¬ ((3 : Int32) < (3 : Int32)) := by decide
  refine op T15 (mkF m 46 #[rv a0, iv 3, rv a2, iv 3, iv 3, iv 3, iv c2] [(.int 3)]) (fun _ k => XS.icmpYes X15.here hx rfl (pc0 := 7) (pc' := 44) rfl (hb hby d7_7) rfl (flt hd19).2.1 (by decide) (by decide) (XS.iload X15.here hx rfl (hb hby d7_44) rfl k)) ?_
  exact own_ret (w := (.int 3)) X15 hx Bd.notSynchronized Bd.returns rfl (Or.inl ⟨rfl, by simp, _, rfl⟩) (hb hby d7_46) (by rw [e15]; exact ⟨NF15, KP15, f16, f18⟩) (by decide) (by decide)
theorem ef_c2L3 (m : MethodId) (a0 a2 : Addr) : entryFrame m #[(.ref a0), (.int 0), (.ref a2), (.int 0), (.int 3)] 7 = mkF m 0 #[rv a0, iv 0, rv a2, iv 0, iv 3, uu, uu] [] := by first | (simp [entryFrame, mkF, argsToLocals, Value.category]; done) | rfl
set_option maxRecDepth 65536 in
set_option maxHeartbeats 40000000 in
theorem rmc2L3 (l : Launch) (Z : State) (aw : Array Value) (hw : HW aw Z) (ws : List Jvm.Cond) (c0 c1 c2 : Int32) (a0 a2 : Addr) (h0 : Heap) (n0 : Nat) (SZ0 : n0 ≤ h0.size) (G0 : own_Pv Z h0 a0 (3 : Int32) [c0, c1, c2] .char) (Gp : own_Pv Z h0 a2 (3 : Int32) [(0 : Int32), (0 : Int32), (0 : Int32)] .byte) (J0 : own_J Z h0) (Gv : a0 ≠ a2) (hL0 : ¬ (255 : Int32) < c0) (hL1 : ¬ (255 : Int32) < c1) (hL2 : ¬ (255 : Int32) < c2) (Gn : n0 ≤ a2) :
    MetFree l y24 (head1 (Jvm.Cond.code y24 Gj 7 (some .int) :: ws) Qc2L3) (fun a U => a = #[(.ref a0), (.int 0), (.ref a2), (.int 0), (.int 3)] ∧ Z.Warmed39 U.vm ∧ U.heap = h0) (fun _ _ _ _ _ => True) (fun _ U o U' => ∃ v L, o = .returned v ∧ own_Q (Rc2L3 (fc2L3_0 c0 c1 c2)) (Kc2L3 Z c0 c1 c2 a0 a2 h0 n0 (fc2L3_0 c0 c1 c2)) v U'.heap L ∧ FrameEnd U o U' L Qc2L3.cells Qc2L3.slots) := by
  refine MetFree.of_bodySF (plainFor_of_name own_pn4) hisR ?_
  intro p e s m args below meth c s₁ Bd hml0 hP hK
  obtain ⟨rfl, hZ, hh⟩ := hP
  have hml : c.maxLocals = 7 := hml0
  have e0 : s₁.heap = h0 := by rw [← hh, Bd.state]; rfl
  exact own_pre (fun t k => castTop (ef_c2L3 m a0 a2) k) (gc2L3_0 hw c0 c1 c2 a0 a2 Gv hL0 hL1 hL2 Bd hml hZ Gn s₁ (Stand.of_body Bd) e0 SZ0 (Fr.nil n0) (Keep.refl _ _) G0 Gp J0)
abbrev QcpL3 : Room := { frames := 3, cells := 2, slots := 9, locals := 64 }
/-! body 6, cpL3 -/
def RcpL3 (t : Unit) : Option Value := none
def KcpL3 (Z : State) (c0 c1 c2 : Int32) (a0 : Addr) (h0 : Heap) (n0 : Nat) (t : Unit) (h : Heap) (L : List Loc) (rb : Addr) : Prop := Fr n0 L ∧ Keep h0 h [] ∧ h0.size ≤ rb ∧ own_Pv Z h rb (3 : Int32) [(own_by c0), (own_by c1), (own_by c2)] .byte ∧ own_J Z h
def fcpL3_0 (c0 c1 c2 : Int32) : Unit := ()
set_option maxRecDepth 65536 in
set_option maxHeartbeats 40000000 in
theorem gcpL3_0 (hw : HW aw Z) {h0 : Heap} {n0 : Nat} (c0 c1 c2 : Int32) (a0 : Addr) (hL0 : ¬ (255 : Int32) < c0) (hL1 : ¬ (255 : Int32) < c1) (hL2 : ¬ (255 : Int32) < c2)
    (Bd : BodyLoose p l y25 (head1 (Jvm.Cond.code y25 Gi 6 (some (.array .byte)) :: ws) QcpL3) Gi 6 (some (.array .byte)) e s m #[(.ref a0), (.int 0), (.int 3)] below meth c s₁) (hml : c.maxLocals = 6) (hZ : Z.Warmed39 s.vm) (T0 : State) {locs : List Loc} (X0 : Stand p l e QcpL3 s m #[(.ref a0), (.int 0), (.int 3)] below meth c T0 locs 0 0) (e0 : T0.heap = h0) (SZ0 : n0 ≤ h0.size) (NF0 : Fr n0 locs) (KP0 : Keep h0 h0 []) (G0 : own_Pv Z h0 a0 (3 : Int32) [c0, c1, c2] .char) (J0 : own_J Z h0) :
    own_GoE p e below s QcpL3.cells QcpL3.slots (KcpL3 Z c0 c1 c2 a0 h0 n0 (fcpL3_0 c0 c1 c2)) (T0.setTop (mkF m 0 #[rv a0, iv 0, iv 3, uu, uu, uu] [])) := by
  have hx := Bd.exec
  have hby := Bd.bytes
  have hown : s.vm.findClass cU = some m.cls := findClass_of_methodNamed Bd.named
  have hnm := (name_of_methodNamed Bd.named Bd.method).1
  unfold fcpL3_0
  refine opE T0 (mkF m 1 #[rv a0, iv 0, iv 3, uu, uu, uu] [(.int 3)]) (fun _ k => XS.iloadN X0.here hx rfl (hb hby d6_0) rfl k) ?_
  obtain ⟨T1, h1, k1, X1, e1, E1, A1, st'⟩ := newP X0 hx hZ (ow hw 16 rfl) e0 (g := (mkF m 1 #[rv a0, iv 0, iv 3, uu, uu, uu] [(.int 3)])) rfl (hb hby d6_1) rfl (by decide) (cap := 3) (by decide) (by decide) (by decide) (by decide)
  obtain ⟨b1, g1⟩ : ∃ z, z = h0.size := ⟨_, rfl⟩
  rw [← g1] at A1 st'
  have Gu : n0 ≤ b1 := Nat.le_trans SZ0 (Nat.le_of_eq g1.symm)
  have Go : a0 ≠ b1 := Nat.ne_of_lt (Nat.lt_of_lt_of_le G0.lt (Nat.le_of_eq g1.symm))
  have Gr : h0.size ≤ b1 := Nat.le_trans KP0.1 (Nat.le_of_eq g1.symm)
  have KP1 := KP0.ext E1
  have SZ1 : n0 ≤ h1.size := Nat.le_trans SZ0 E1.1
  have f2 := G0.ext E1
  have f3 := own_J.ext J0 E1
  have f4 : own_Pv Z h1 b1 (3 : Int32) [(0 : Int32), (0 : Int32), (0 : Int32)] .byte := ⟨_, (Arv.new A1 (by decide)).pad (pad_rep [] (.int 0) 3)⟩
  refine opE T1 (mkF m 9 #[rv a0, iv 0, iv 3, rv b1, uu, uu] [(.int 3), (.int 0), (.ref b1), (.int 0), (.ref a0)]) (fun _ k => st' _ (XS.astoreN X1.here hx rfl (hb hby d6_3) rfl rfl (l' := #[rv a0, iv 0, iv 3, rv b1, uu, uu]) rfl (XS.aloadN X1.here hx rfl (hb hby d6_4) rfl rfl (XS.iloadN X1.here hx rfl (hb hby d6_5) rfl (XS.aloadN X1.here hx rfl (hb hby d6_6) rfl rfl (XS.iconst X1.here hx rfl (hb hby d6_7) (XS.iloadN X1.here hx rfl (hb hby d6_8) rfl k))))))) ?_
  obtain ⟨_, _, ⟨T5, L5, k5, n5⟩, -, X5', ⟨Lc5, hQ5, l5, y5, z5⟩, st'⟩ := Jvm.LawKit.callS X1 hx (y := y24) hown (mvT hZ (ow hw 37 rfl)) (mvT hZ (ow hw 38 rfl)) (mvT hZ (ow hw 35 rfl)) (mvT hZ (ow hw 39 rfl)) (by decide) (backOf (W := 0) (rmc2L3 l Z aw hw [] c0 c1 c2 a0 b1 h1 n0 SZ1 f2 f4 f3 Go hL0 hL1 hL2 Gu) hZ (ow hw 39 rfl) (ow hw 35 rfl) (by decide) (by decide)) (g := (mkF m 9 #[rv a0, iv 0, iv 3, rv b1, uu, uu] [(.int 3), (.int 0), (.ref b1), (.int 0), (.ref a0)])) rfl (by rw [hml]; rfl) (argsL := [(.ref a0), (.int 0), (.ref b1), (.int 0), (.int 3)]) (rest := []) (lenOf own_pd14 rfl) rfl (by show 2 * 0 + _ ≤ _; exact Nat.le_of_eq rfl) (hb hby d6_9) (fun _ _ => ⟨rfl, e1, (by decide : 1 + 0 ≤ _), (by decide : 3 + 0 ≤ _)⟩)
  dsimp only [Pt.U, Pt.locs, Pt.cells, Pt.slots] at X5' l5 y5 z5 st' hQ5
  subst l5 y5 z5
  obtain ⟨rfl, NFq5, KPq5, p5_0, p5_1⟩ := hQ5
  have X5 : Stand p l e QcpL3 s m #[(.ref a0), (.int 0), (.int 3)] below meth c T5 _ 1 3 := X5'
  have NF5 := Fr.app NF0 NFq5
  have SZ5 : n0 ≤ T5.heap.size := Nat.le_trans SZ1 KPq5.1
  have KP5 : Keep h0 T5.heap [] := KP1.trans KPq5 (allS (Or.inr Gr) all0)
  have f6 := f2.keep KPq5 (ninS Go nin0)
  refine opE T5 (mkF m 17 #[rv a0, iv 0, iv 3, rv b1, iv 3, uu] [(.int 3), (.int 3)]) (fun _ k => st' _ (XS.istore X5.here hx rfl (hb hby d6_12) rfl (l' := #[rv a0, iv 0, iv 3, rv b1, iv 3, uu]) rfl (XS.iload X5.here hx rfl (hb hby d6_14) rfl (XS.iloadN X5.here hx rfl (hb hby d6_16) rfl k)))) ?_
  have hd7 : (3 : Int32) = (3 : Int32) := by decide
  refine opE T5 (mkF m 58 #[rv a0, iv 0, iv 3, rv b1, iv 3, uu] [(.ref b1)]) (fun _ k => XS.icmpYes X5.here hx rfl (pc0 := 17) (pc' := 57) rfl (hb hby d6_17) rfl (teq hd7).1 (by decide) (by decide) (XS.aloadN X5.here hx rfl (hb hby d6_57) rfl rfl k)) ?_
  exact own_retE (b := b1) X5 hx Bd.notSynchronized Bd.returns rfl (hb hby d6_58) ⟨NF5, KP5, Gr, p5_0, p5_1⟩ (by decide) (by decide)
theorem ef_cpL3 (m : MethodId) (a0 : Addr) : entryFrame m #[(.ref a0), (.int 0), (.int 3)] 6 = mkF m 0 #[rv a0, iv 0, iv 3, uu, uu, uu] [] := by first | (simp [entryFrame, mkF, argsToLocals, Value.category]; done) | rfl
set_option maxRecDepth 65536 in
set_option maxHeartbeats 40000000 in
theorem rmcpL3 (l : Launch) (Z : State) (aw : Array Value) (hw : HW aw Z) (ws : List Jvm.Cond) (c0 c1 c2 : Int32) (a0 : Addr) (h0 : Heap) (n0 : Nat) (SZ0 : n0 ≤ h0.size) (G0 : own_Pv Z h0 a0 (3 : Int32) [c0, c1, c2] .char) (J0 : own_J Z h0) (hL0 : ¬ (255 : Int32) < c0) (hL1 : ¬ (255 : Int32) < c1) (hL2 : ¬ (255 : Int32) < c2) :
    MetFree l y25 (head1 (Jvm.Cond.code y25 Gi 6 (some (.array .byte)) :: ws) QcpL3) (fun a U => a = #[(.ref a0), (.int 0), (.int 3)] ∧ Z.Warmed39 U.vm ∧ U.heap = h0) (fun _ _ _ _ _ => True) (fun _ U o U' => ∃ v L, o = .returned v ∧ own_QE (KcpL3 Z c0 c1 c2 a0 h0 n0 (fcpL3_0 c0 c1 c2)) v U'.heap L ∧ FrameEnd U o U' L QcpL3.cells QcpL3.slots) := by
  refine MetFree.of_bodySF (plainFor_of_name own_pn4) hisR ?_
  intro p e s m args below meth c s₁ Bd hml0 hP hK
  obtain ⟨rfl, hZ, hh⟩ := hP
  have hml : c.maxLocals = 6 := hml0
  have e0 : s₁.heap = h0 := by rw [← hh, Bd.state]; rfl
  exact own_preE (fun t k => castTop (ef_cpL3 m a0) k) (gcpL3_0 hw c0 c1 c2 a0 hL0 hL1 hL2 Bd hml hZ s₁ (Stand.of_body Bd) e0 SZ0 (Fr.nil n0) (Keep.refl _ _) G0 J0)
abbrev Qc2U30 : Room := { frames := 0, cells := 0, slots := 0, locals := 0 }
/-! body 7, c2U30 -/
def Rc2U30 (t : Int32) : Option Value := some (.int t)
def Kc2U30 (Z : State) (c0 c1 c2 : Int32) (a0 a2 : Addr) (h0 : Heap) (n0 : Nat) (t : Int32) (h : Heap) (L : List Loc) : Prop := Fr n0 L ∧ Keep h0 h [a2] ∧ own_J Z h
def fc2U30_0 (c0 c1 c2 : Int32) : Int32 := (0 : Int32)
set_option maxRecDepth 65536 in
set_option maxHeartbeats 40000000 in
theorem gc2U30_0 (hw : HW aw Z) {h0 : Heap} {n0 : Nat} (c0 c1 c2 : Int32) (a0 a2 : Addr) (hB : (255 : Int32) < c0)
    (Bd : BodyLoose p l y24 (head1 (Jvm.Cond.code y24 Gj 7 (some .int) :: ws) Qc2U30) Gj 7 (some .int) e s m #[(.ref a0), (.int 0), (.ref a2), (.int 0), (.int 3)] below meth c s₁) (hml : c.maxLocals = 7) (hZ : Z.Warmed39 s.vm) (Gn : n0 ≤ a2) (T0 : State) {locs : List Loc} (X0 : Stand p l e Qc2U30 s m #[(.ref a0), (.int 0), (.ref a2), (.int 0), (.int 3)] below meth c T0 locs 0 0) (e0 : T0.heap = h0) (SZ0 : n0 ≤ h0.size) (NF0 : Fr n0 locs) (KP0 : Keep h0 h0 [a2]) (G0 : own_Pv Z h0 a0 (3 : Int32) [c0, c1, c2] .char) (Gp : own_Pv Z h0 a2 (3 : Int32) [(0 : Int32), (0 : Int32), (0 : Int32)] .byte) (J0 : own_J Z h0) :
    own_Go p e below s Qc2U30.cells Qc2U30.slots (Rc2U30 (fc2U30_0 c0 c1 c2)) (Kc2U30 Z c0 c1 c2 a0 a2 h0 n0 (fc2U30_0 c0 c1 c2)) (T0.setTop (mkF m 0 #[rv a0, iv 0, rv a2, iv 0, iv 3, uu, uu] [])) := by
  have hx := Bd.exec
  have hby := Bd.bytes
  have hown : s.vm.findClass cU = some m.cls := findClass_of_methodNamed Bd.named
  have hnm := (name_of_methodNamed Bd.named Bd.method).1
  unfold fc2U30_0
  refine op T0 (mkF m 7 #[rv a0, iv 0, rv a2, iv 0, iv 3, iv 0, uu] [(.int 3), (.int 0)]) (fun _ k => XS.iconst X0.here hx rfl (hb hby d7_0) (XS.istore X0.here hx rfl (hb hby d7_1) rfl (l' := #[rv a0, iv 0, rv a2, iv 0, iv 3, iv 0, uu]) rfl (XS.iload X0.here hx rfl (hb hby d7_3) rfl (XS.iload X0.here hx rfl (hb hby d7_5) rfl k)))) ?_
  have hd1 : (0 : Int32) < (3 : Int32) := by decide
  refine op T0 (mkF m 12 #[rv a0, iv 0, rv a2, iv 0, iv 3, iv 0, uu] [(.int 0), (.ref a0)]) (fun _ k => XS.icmpNo X0.here hx rfl (hb hby d7_7) rfl (tlt hd1).2.1 (XS.aloadN X0.here hx rfl (hb hby d7_10) rfl rfl (XS.iloadN X0.here hx rfl (hb hby d7_11) rfl k))) ?_
  obtain ⟨k2, cl2, Ar2, q2, S2, N2, H2, G2⟩ := id G0
  have hin2 : ¬ ((0 : Int32) < 0 ∨ cl2.slots.size ≤ ((0 : Int32)).toNatClampNeg) := inb_of S2 ⟨by decide, by decide⟩
  refine op T0 (mkF m 13 #[rv a0, iv 0, rv a2, iv 0, iv 3, iv 0, uu] [(.int c0)]) (fun t k => X0.caload hx (j := (0 : Int32)) (v := (.int c0)) (by rw [e0]; exact Ar2.1) (State.isArrayOf_alike hZ.alike Ar2.2.1) Ar2.2.2 hin2 (H2.at hin2 rfl) (g := (mkF m 12 #[rv a0, iv 0, rv a2, iv 0, iv 3, iv 0, uu] [(.int 0), (.ref a0)])) rfl rfl (hb hby d7_12) t k) ?_
  refine op T0 (mkF m 20 #[rv a0, iv 0, rv a2, iv 0, iv 3, iv 0, iv c0] [(.int 255), (.int c0)]) (fun _ k => XS.istore X0.here hx rfl (hb hby d7_13) rfl (l' := #[rv a0, iv 0, rv a2, iv 0, iv 3, iv 0, iv c0]) rfl (XS.iload X0.here hx rfl (hb hby d7_15) rfl (XS.sipush X0.here hx rfl (hb hby d7_17) k))) ?_
  have hc20 : (255 : Int32) < c0 := hB
  refine op T0 (mkF m 25 #[rv a0, iv 0, rv a2, iv 0, iv 3, iv 0, iv c0] [(.int 0)]) (fun _ k => XS.icmpNo X0.here hx rfl (hb hby d7_20) rfl (tlt hc20).2.2.2 (XS.iload X0.here hx rfl (hb hby d7_23) rfl k)) ?_
  exact own_ret (w := (.int 0)) X0 hx Bd.notSynchronized Bd.returns rfl (Or.inl ⟨rfl, by simp, _, rfl⟩) (hb hby d7_25) (by rw [e0]; exact ⟨NF0, KP0, J0⟩) (by decide) (by decide)
theorem ef_c2U30 (m : MethodId) (a0 a2 : Addr) : entryFrame m #[(.ref a0), (.int 0), (.ref a2), (.int 0), (.int 3)] 7 = mkF m 0 #[rv a0, iv 0, rv a2, iv 0, iv 3, uu, uu] [] := by first | (simp [entryFrame, mkF, argsToLocals, Value.category]; done) | rfl
set_option maxRecDepth 65536 in
set_option maxHeartbeats 40000000 in
theorem rmc2U30 (l : Launch) (Z : State) (aw : Array Value) (hw : HW aw Z) (ws : List Jvm.Cond) (c0 c1 c2 : Int32) (a0 a2 : Addr) (h0 : Heap) (n0 : Nat) (SZ0 : n0 ≤ h0.size) (G0 : own_Pv Z h0 a0 (3 : Int32) [c0, c1, c2] .char) (Gp : own_Pv Z h0 a2 (3 : Int32) [(0 : Int32), (0 : Int32), (0 : Int32)] .byte) (J0 : own_J Z h0) (hB : (255 : Int32) < c0) (Gn : n0 ≤ a2) :
    MetFree l y24 (head1 (Jvm.Cond.code y24 Gj 7 (some .int) :: ws) Qc2U30) (fun a U => a = #[(.ref a0), (.int 0), (.ref a2), (.int 0), (.int 3)] ∧ Z.Warmed39 U.vm ∧ U.heap = h0) (fun _ _ _ _ _ => True) (fun _ U o U' => ∃ v L, o = .returned v ∧ own_Q (Rc2U30 (fc2U30_0 c0 c1 c2)) (Kc2U30 Z c0 c1 c2 a0 a2 h0 n0 (fc2U30_0 c0 c1 c2)) v U'.heap L ∧ FrameEnd U o U' L Qc2U30.cells Qc2U30.slots) := by
  refine MetFree.of_bodySF (plainFor_of_name own_pn4) hisR ?_
  intro p e s m args below meth c s₁ Bd hml0 hP hK
  obtain ⟨rfl, hZ, hh⟩ := hP
  have hml : c.maxLocals = 7 := hml0
  have e0 : s₁.heap = h0 := by rw [← hh, Bd.state]; rfl
  exact own_pre (fun t k => castTop (ef_c2U30 m a0 a2) k) (gc2U30_0 hw c0 c1 c2 a0 a2 hB Bd hml hZ Gn s₁ (Stand.of_body Bd) e0 SZ0 (Fr.nil n0) (Keep.refl _ _) G0 Gp J0)
abbrev QcpU30 : Room := { frames := 3, cells := 2, slots := 9, locals := 64 }
/-! body 6, cpU30 -/
def RcpU30 (t : Unit) : Option Value := none
def KcpU30 (Z : State) (c0 c1 c2 : Int32) (a0 : Addr) (h0 : Heap) (n0 : Nat) (t : Unit) (h : Heap) (L : List Loc) (rb : Addr) : Prop := Fr n0 L ∧ Keep h0 h [] ∧ h0.size ≤ rb ∧ own_Pv Z h rb (6 : Int32) [(own_lo c0), (own_hi c0), (own_lo c1), (own_hi c1), (own_lo c2), (own_hi c2)] .byte ∧ own_J Z h
def fcpU30_0 (c0 c1 c2 : Int32) : Unit := ()
set_option maxRecDepth 65536 in
set_option maxHeartbeats 40000000 in
theorem gcpU30_0 (hw : HW aw Z) {h0 : Heap} {n0 : Nat} (c0 c1 c2 : Int32) (a0 : Addr) (hB : (255 : Int32) < c0) (hC : own_ch c0)
    (Bd : BodyLoose p l y25 (head1 (Jvm.Cond.code y25 Gi 6 (some (.array .byte)) :: ws) QcpU30) Gi 6 (some (.array .byte)) e s m #[(.ref a0), (.int 0), (.int 3)] below meth c s₁) (hml : c.maxLocals = 6) (hZ : Z.Warmed39 s.vm) (T0 : State) {locs : List Loc} (X0 : Stand p l e QcpU30 s m #[(.ref a0), (.int 0), (.int 3)] below meth c T0 locs 0 0) (e0 : T0.heap = h0) (SZ0 : n0 ≤ h0.size) (NF0 : Fr n0 locs) (KP0 : Keep h0 h0 []) (G0 : own_Pv Z h0 a0 (3 : Int32) [c0, c1, c2] .char) (J0 : own_J Z h0) :
    own_GoE p e below s QcpU30.cells QcpU30.slots (KcpU30 Z c0 c1 c2 a0 h0 n0 (fcpU30_0 c0 c1 c2)) (T0.setTop (mkF m 0 #[rv a0, iv 0, iv 3, uu, uu, uu] [])) := by
  have hx := Bd.exec
  have hby := Bd.bytes
  have hown : s.vm.findClass cU = some m.cls := findClass_of_methodNamed Bd.named
  have hnm := (name_of_methodNamed Bd.named Bd.method).1
  unfold fcpU30_0
  refine opE T0 (mkF m 1 #[rv a0, iv 0, iv 3, uu, uu, uu] [(.int 3)]) (fun _ k => XS.iloadN X0.here hx rfl (hb hby d6_0) rfl k) ?_
  obtain ⟨T1, h1, k1, X1, e1, E1, A1, st'⟩ := newP X0 hx hZ (ow hw 16 rfl) e0 (g := (mkF m 1 #[rv a0, iv 0, iv 3, uu, uu, uu] [(.int 3)])) rfl (hb hby d6_1) rfl (by decide) (cap := 3) (by decide) (by decide) (by decide) (by decide)
  obtain ⟨b1, g1⟩ : ∃ z, z = h0.size := ⟨_, rfl⟩
  rw [← g1] at A1 st'
  have Gu : n0 ≤ b1 := Nat.le_trans SZ0 (Nat.le_of_eq g1.symm)
  have Go : a0 ≠ b1 := Nat.ne_of_lt (Nat.lt_of_lt_of_le G0.lt (Nat.le_of_eq g1.symm))
  have Gr : h0.size ≤ b1 := Nat.le_trans KP0.1 (Nat.le_of_eq g1.symm)
  have KP1 := KP0.ext E1
  have SZ1 : n0 ≤ h1.size := Nat.le_trans SZ0 E1.1
  have f2 := G0.ext E1
  have f3 := own_J.ext J0 E1
  have f4 : own_Pv Z h1 b1 (3 : Int32) [(0 : Int32), (0 : Int32), (0 : Int32)] .byte := ⟨_, (Arv.new A1 (by decide)).pad (pad_rep [] (.int 0) 3)⟩
  refine opE T1 (mkF m 9 #[rv a0, iv 0, iv 3, rv b1, uu, uu] [(.int 3), (.int 0), (.ref b1), (.int 0), (.ref a0)]) (fun _ k => st' _ (XS.astoreN X1.here hx rfl (hb hby d6_3) rfl rfl (l' := #[rv a0, iv 0, iv 3, rv b1, uu, uu]) rfl (XS.aloadN X1.here hx rfl (hb hby d6_4) rfl rfl (XS.iloadN X1.here hx rfl (hb hby d6_5) rfl (XS.aloadN X1.here hx rfl (hb hby d6_6) rfl rfl (XS.iconst X1.here hx rfl (hb hby d6_7) (XS.iloadN X1.here hx rfl (hb hby d6_8) rfl k))))))) ?_
  obtain ⟨_, _, ⟨T5, L5, k5, n5⟩, -, X5', ⟨Lc5, hQ5, l5, y5, z5⟩, st'⟩ := Jvm.LawKit.callS X1 hx (y := y24) hown (mvT hZ (ow hw 37 rfl)) (mvT hZ (ow hw 38 rfl)) (mvT hZ (ow hw 35 rfl)) (mvT hZ (ow hw 39 rfl)) (by decide) (backOf (W := 0) (rmc2U30 l Z aw hw [] c0 c1 c2 a0 b1 h1 n0 SZ1 f2 f4 f3 hB Gu) hZ (ow hw 39 rfl) (ow hw 35 rfl) (by decide) (by decide)) (g := (mkF m 9 #[rv a0, iv 0, iv 3, rv b1, uu, uu] [(.int 3), (.int 0), (.ref b1), (.int 0), (.ref a0)])) rfl (by rw [hml]; rfl) (argsL := [(.ref a0), (.int 0), (.ref b1), (.int 0), (.int 3)]) (rest := []) (lenOf own_pd14 rfl) rfl (by show 2 * 0 + _ ≤ _; exact Nat.le_of_eq rfl) (hb hby d6_9) (fun _ _ => ⟨rfl, e1, (by decide : 1 + 0 ≤ _), (by decide : 3 + 0 ≤ _)⟩)
  dsimp only [Pt.U, Pt.locs, Pt.cells, Pt.slots] at X5' l5 y5 z5 st' hQ5
  subst l5 y5 z5
  obtain ⟨rfl, NFq5, KPq5, p5_0⟩ := hQ5
  have X5 : Stand p l e QcpU30 s m #[(.ref a0), (.int 0), (.int 3)] below meth c T5 _ 1 3 := X5'
  have NF5 := Fr.app NF0 NFq5
  have SZ5 : n0 ≤ T5.heap.size := Nat.le_trans SZ1 KPq5.1
  have KP5 : Keep h0 T5.heap [] := KP1.trans KPq5 (allS (Or.inr Gr) all0)
  have f6 := f2.keep KPq5 (ninS Go nin0)
  refine opE T5 (mkF m 17 #[rv a0, iv 0, iv 3, rv b1, iv 0, uu] [(.int 3), (.int 0)]) (fun _ k => st' _ (XS.istore X5.here hx rfl (hb hby d6_12) rfl (l' := #[rv a0, iv 0, iv 3, rv b1, iv 0, uu]) rfl (XS.iload X5.here hx rfl (hb hby d6_14) rfl (XS.iloadN X5.here hx rfl (hb hby d6_16) rfl k)))) ?_
  have hd7 : ¬ ((0 : Int32) = (3 : Int32)) := by decide
  refine opE T5 (mkF m 23 #[rv a0, iv 0, iv 3, rv b1, iv 0, uu] [(.int 3), (.int 0), (.ref a0)]) (fun _ k => XS.icmpNo X5.here hx rfl (hb hby d6_17) rfl (feq hd7).1 (XS.aloadN X5.here hx rfl (hb hby d6_20) rfl rfl (XS.iloadN X5.here hx rfl (hb hby d6_21) rfl (XS.iloadN X5.here hx rfl (hb hby d6_22) rfl k)))) ?_
  obtain ⟨_, _, ⟨T8, L8, k8, n8⟩, -, X8', ⟨Lc8, hQ8, l8, y8, z8⟩, st'⟩ := Jvm.LawKit.callS X5 hx (y := y23) hown (mvT hZ (ow hw 107 rfl)) (mvT hZ (ow hw 108 rfl)) (mvT hZ (ow hw 35 rfl)) (mvT hZ (ow hw 109 rfl)) (by decide) (backOf (W := 0) (rmtb3 l Z aw hw [] c0 c1 c2 a0 T5.heap n0 SZ5 f6 p5_0) hZ (ow hw 109 rfl) (ow hw 35 rfl) (by decide) (by decide)) (g := (mkF m 23 #[rv a0, iv 0, iv 3, rv b1, iv 0, uu] [(.int 3), (.int 0), (.ref a0)])) rfl (by rw [hml]; rfl) (argsL := [(.ref a0), (.int 0), (.int 3)]) (rest := []) (lenOf own_pd15 rfl) rfl (by show 2 * 0 + _ ≤ _; exact Nat.le_of_eq rfl) (hb hby d6_23) (fun _ _ => ⟨rfl, (rfl : T5.heap = T5.heap), (by decide : 1 + 1 ≤ _), (by decide : 3 + 6 ≤ _)⟩)
  dsimp only [Pt.U, Pt.locs, Pt.cells, Pt.slots] at X8' l8 y8 z8 st' hQ8
  subst l8 y8 z8
  obtain ⟨rfl, NFq8, KPq8, p8_0, p8_1⟩ := hQ8
  have X8 : Stand p l e QcpU30 s m #[(.ref a0), (.int 0), (.int 3)] below meth c T8 _ 2 9 := X8'
  have NF8 := Fr.app NF5 NFq8
  have SZ8 : n0 ≤ T8.heap.size := Nat.le_trans SZ5 KPq8.1
  have KP8 : Keep h0 T8.heap [] := KP5.trans KPq8 all0
  obtain ⟨b8, g8⟩ : ∃ z, z = T5.heap.size := ⟨_, rfl⟩
  simp only [Rtb3, ← g8] at st' p8_0
  have g_b8 : n0 ≤ b8 := Nat.le_trans SZ5 (Nat.le_of_eq g8.symm)
  have Hk : h0.size ≤ b8 := Nat.le_trans KP5.1 (Nat.le_of_eq g8.symm)
  have Hw : a0 ≠ b8 := Nat.ne_of_lt (Nat.lt_of_lt_of_le f6.lt (Nat.le_of_eq g8.symm))
  have f9 := f6.keep KPq8 nin0
  have f10 := own_J.keep p5_0 KPq8
  refine opE T8 (mkF m 32 #[rv a0, iv 0, iv 3, rv b1, iv 0, rv b8] [(.int 0), (.ref b8)]) (fun _ k => st' _ (XS.astore X8.here hx rfl (hb hby d6_26) rfl rfl (l' := #[rv a0, iv 0, iv 3, rv b1, iv 0, rv b8]) rfl (XS.aload X8.here hx rfl (hb hby d6_28) rfl rfl (XS.iload X8.here hx rfl (hb hby d6_30) rfl k)))) ?_
  obtain ⟨_, _, ⟨T11, L11, k11, n11⟩, -, X11', ⟨Lc11, hQ11, l11, y11, z11⟩, st'⟩ := Jvm.LawKit.callS X8 hx (y := y3) hown (mvT hZ (ow hw 123 rfl)) (mvT hZ (ow hw 124 rfl)) (mvT hZ (ow hw 35 rfl)) (mvT hZ (ow hw 125 rfl)) (by decide) (backOf (W := 0) (rmgc l Z aw hw [] (0 : Int32) (6 : Int32) (own_lo c0) (own_hi c0) b8 T8.heap n0 SZ8 (own_Pv.be p8_0 (by intro x hx; simp only [List.mem_cons, List.not_mem_nil, or_false] at hx; rcases hx with rfl | rfl <;> rfl)) p8_1 (by decide) (by decide) (by decide) (by decide)) hZ (ow hw 125 rfl) (ow hw 35 rfl) (by decide) (by decide)) (g := (mkF m 32 #[rv a0, iv 0, iv 3, rv b1, iv 0, rv b8] [(.int 0), (.ref b8)])) rfl (by rw [hml]; rfl) (argsL := [(.ref b8), (.int 0)]) (rest := []) (lenOf own_pd4 rfl) rfl (by show 2 * 0 + _ ≤ _; exact Nat.le_of_eq rfl) (hb hby d6_32) (fun _ _ => ⟨rfl, (rfl : T8.heap = T8.heap), (by decide : 2 + 0 ≤ _), (by decide : 9 + 0 ≤ _)⟩)
  dsimp only [Pt.U, Pt.locs, Pt.cells, Pt.slots] at X11' l11 y11 z11 st' hQ11
  subst l11 y11 z11
  obtain ⟨rfl, rfl, e11⟩ := hQ11
  have X11 : Stand p l e QcpU30 s m #[(.ref a0), (.int 0), (.int 3)] below meth c T11 _ 2 9 := own_locs X11'
  refine opE T11 (mkF m 38 #[rv a0, iv 0, iv 3, rv b1, iv 0, rv b8] [(.int 255), (.int (fgc_0 (0 : Int32) (6 : Int32) (own_lo c0) (own_hi c0)))]) (fun _ k => st' _ (XS.sipush X11.here hx rfl (hb hby d6_35) k)) ?_
  have hc38 : (255 : Int32) < (fgc_0 (0 : Int32) (6 : Int32) (own_lo c0) (own_hi c0)) := (by rw [own_gcE _ _ hC]; exact hB)
  refine opE T11 (mkF m 56 #[rv a0, iv 0, iv 3, rv b1, iv 0, rv b8] [(.ref b8)]) (fun _ k => XS.icmpYes X11.here hx rfl (pc0 := 38) (pc' := 54) rfl (hb hby d6_38) rfl (tlt hc38).2.2.1 (by decide) (by decide) (XS.aload X11.here hx rfl (hb hby d6_54) rfl rfl k)) ?_
  exact own_retE (b := b8) X11 hx Bd.notSynchronized Bd.returns rfl (hb hby d6_56) (by rw [e11]; exact ⟨NF8, KP8, Hk, p8_0, p8_1⟩) (by decide) (by decide)
theorem ef_cpU30 (m : MethodId) (a0 : Addr) : entryFrame m #[(.ref a0), (.int 0), (.int 3)] 6 = mkF m 0 #[rv a0, iv 0, iv 3, uu, uu, uu] [] := by first | (simp [entryFrame, mkF, argsToLocals, Value.category]; done) | rfl
set_option maxRecDepth 65536 in
set_option maxHeartbeats 40000000 in
theorem rmcpU30 (l : Launch) (Z : State) (aw : Array Value) (hw : HW aw Z) (ws : List Jvm.Cond) (c0 c1 c2 : Int32) (a0 : Addr) (h0 : Heap) (n0 : Nat) (SZ0 : n0 ≤ h0.size) (G0 : own_Pv Z h0 a0 (3 : Int32) [c0, c1, c2] .char) (J0 : own_J Z h0) (hB : (255 : Int32) < c0) (hC : own_ch c0) :
    MetFree l y25 (head1 (Jvm.Cond.code y25 Gi 6 (some (.array .byte)) :: ws) QcpU30) (fun a U => a = #[(.ref a0), (.int 0), (.int 3)] ∧ Z.Warmed39 U.vm ∧ U.heap = h0) (fun _ _ _ _ _ => True) (fun _ U o U' => ∃ v L, o = .returned v ∧ own_QE (KcpU30 Z c0 c1 c2 a0 h0 n0 (fcpU30_0 c0 c1 c2)) v U'.heap L ∧ FrameEnd U o U' L QcpU30.cells QcpU30.slots) := by
  refine MetFree.of_bodySF (plainFor_of_name own_pn4) hisR ?_
  intro p e s m args below meth c s₁ Bd hml0 hP hK
  obtain ⟨rfl, hZ, hh⟩ := hP
  have hml : c.maxLocals = 6 := hml0
  have e0 : s₁.heap = h0 := by rw [← hh, Bd.state]; rfl
  exact own_preE (fun t k => castTop (ef_cpU30 m a0) k) (gcpU30_0 hw c0 c1 c2 a0 hB hC Bd hml hZ s₁ (Stand.of_body Bd) e0 SZ0 (Fr.nil n0) (Keep.refl _ _) G0 J0)
abbrev Qc2U31 : Room := { frames := 0, cells := 0, slots := 0, locals := 0 }
/-! body 7, c2U31 -/
def Rc2U31 (t : Int32) : Option Value := some (.int t)
def Kc2U31 (Z : State) (c0 c1 c2 : Int32) (a0 a2 : Addr) (h0 : Heap) (n0 : Nat) (t : Int32) (h : Heap) (L : List Loc) : Prop := Fr n0 L ∧ Keep h0 h [a2] ∧ own_J Z h
def fc2U31_0 (c0 c1 c2 : Int32) : Int32 := (1 : Int32)
set_option maxRecDepth 65536 in
set_option maxHeartbeats 40000000 in
theorem gc2U31_0 (hw : HW aw Z) {h0 : Heap} {n0 : Nat} (c0 c1 c2 : Int32) (a0 a2 : Addr) (Gv : a0 ≠ a2) (hL0 : ¬ (255 : Int32) < c0) (hB : (255 : Int32) < c1)
    (Bd : BodyLoose p l y24 (head1 (Jvm.Cond.code y24 Gj 7 (some .int) :: ws) Qc2U31) Gj 7 (some .int) e s m #[(.ref a0), (.int 0), (.ref a2), (.int 0), (.int 3)] below meth c s₁) (hml : c.maxLocals = 7) (hZ : Z.Warmed39 s.vm) (Gn : n0 ≤ a2) (T0 : State) {locs : List Loc} (X0 : Stand p l e Qc2U31 s m #[(.ref a0), (.int 0), (.ref a2), (.int 0), (.int 3)] below meth c T0 locs 0 0) (e0 : T0.heap = h0) (SZ0 : n0 ≤ h0.size) (NF0 : Fr n0 locs) (KP0 : Keep h0 h0 [a2]) (G0 : own_Pv Z h0 a0 (3 : Int32) [c0, c1, c2] .char) (Gp : own_Pv Z h0 a2 (3 : Int32) [(0 : Int32), (0 : Int32), (0 : Int32)] .byte) (J0 : own_J Z h0) :
    own_Go p e below s Qc2U31.cells Qc2U31.slots (Rc2U31 (fc2U31_0 c0 c1 c2)) (Kc2U31 Z c0 c1 c2 a0 a2 h0 n0 (fc2U31_0 c0 c1 c2)) (T0.setTop (mkF m 0 #[rv a0, iv 0, rv a2, iv 0, iv 3, uu, uu] [])) := by
  have hx := Bd.exec
  have hby := Bd.bytes
  have hown : s.vm.findClass cU = some m.cls := findClass_of_methodNamed Bd.named
  have hnm := (name_of_methodNamed Bd.named Bd.method).1
  unfold fc2U31_0
  refine op T0 (mkF m 7 #[rv a0, iv 0, rv a2, iv 0, iv 3, iv 0, uu] [(.int 3), (.int 0)]) (fun _ k => XS.iconst X0.here hx rfl (hb hby d7_0) (XS.istore X0.here hx rfl (hb hby d7_1) rfl (l' := #[rv a0, iv 0, rv a2, iv 0, iv 3, iv 0, uu]) rfl (XS.iload X0.here hx rfl (hb hby d7_3) rfl (XS.iload X0.here hx rfl (hb hby d7_5) rfl k)))) ?_
  have hd1 : (0 : Int32) < (3 : Int32) := by decide
  refine op T0 (mkF m 12 #[rv a0, iv 0, rv a2, iv 0, iv 3, iv 0, uu] [(.int 0), (.ref a0)]) (fun _ k => XS.icmpNo X0.here hx rfl (hb hby d7_7) rfl (tlt hd1).2.1 (XS.aloadN X0.here hx rfl (hb hby d7_10) rfl rfl (XS.iloadN X0.here hx rfl (hb hby d7_11) rfl k))) ?_
  obtain ⟨k2, cl2, Ar2, q2, S2, N2, H2, G2⟩ := id G0
  have hin2 : ¬ ((0 : Int32) < 0 ∨ cl2.slots.size ≤ ((0 : Int32)).toNatClampNeg) := inb_of S2 ⟨by decide, by decide⟩
  refine op T0 (mkF m 13 #[rv a0, iv 0, rv a2, iv 0, iv 3, iv 0, uu] [(.int c0)]) (fun t k => X0.caload hx (j := (0 : Int32)) (v := (.int c0)) (by rw [e0]; exact Ar2.1) (State.isArrayOf_alike hZ.alike Ar2.2.1) Ar2.2.2 hin2 (H2.at hin2 rfl) (g := (mkF m 12 #[rv a0, iv 0, rv a2, iv 0, iv 3, iv 0, uu] [(.int 0), (.ref a0)])) rfl rfl (hb hby d7_12) t k) ?_
  refine op T0 (mkF m 20 #[rv a0, iv 0, rv a2, iv 0, iv 3, iv 0, iv c0] [(.int 255), (.int c0)]) (fun _ k => XS.istore X0.here hx rfl (hb hby d7_13) rfl (l' := #[rv a0, iv 0, rv a2, iv 0, iv 3, iv 0, iv c0]) rfl (XS.iload X0.here hx rfl (hb hby d7_15) rfl (XS.sipush X0.here hx rfl (hb hby d7_17) k))) ?_
  have hc20 : ¬ ((255 : Int32) < c0) := hL0
  refine op T0 (mkF m 31 #[rv a0, iv 0, rv a2, iv 0, iv 3, iv 0, iv c0] [(.int (c0.toInt8.toInt32)), (.int 0), (.ref a2)]) (fun _ k => XS.icmpYes X0.here hx rfl (pc0 := 20) (pc' := 26) rfl (hb hby d7_20) rfl (flt hc20).2.2.2 (by decide) (by decide) (XS.aloadN X0.here hx rfl (hb hby d7_26) rfl rfl (XS.iloadN X0.here hx rfl (hb hby d7_27) rfl (XS.iload X0.here hx rfl (hb hby d7_28) rfl (XS.i2b X0.here hx rfl (hb hby d7_30) rfl k))))) ?_
  obtain ⟨k3, cl3, Ar3, q3, S3, N3, H3, G3⟩ := id Gp
  have hin3 : ¬ ((0 : Int32) < 0 ∨ cl3.slots.size ≤ ((0 : Int32)).toNatClampNeg) := inb_of S3 ⟨by decide, by decide⟩
  obtain ⟨T3, h3, X3, e3, W3, st'⟩ := stB X0 hx hZ e0 Ar3 (j := (0 : Int32)) hin3 (g := (mkF m 31 #[rv a0, iv 0, rv a2, iv 0, iv 3, iv 0, iv c0] [(.int (c0.toInt8.toInt32)), (.int 0), (.ref a2)])) rfl rfl (hb hby d7_31)
  have f4 : own_Pv Z h3 a2 (3 : Int32) [((c0.toInt8.toInt32).toInt8.toInt32), (0 : Int32), (0 : Int32)] .byte := ⟨_, Arv.set Ar3 q3 S3 N3 H3 G3 (fits_nar_byte _) W3 0 rfl (Nat.le_of_ble_eq_true rfl)⟩
  have f5 := G0.other W3 Gv
  have f6 := own_J.wr J0 W3
  have NF3 := Fr.snoc X3 NF0 Gn
  have SZ3 : n0 ≤ h3.size := (Nat.le_trans SZ0 (Keep.of_wr W3).1)
  have KP3 : Keep h0 h3 [a2] := KP0.wr W3 (Or.inl (List.mem_of_getElem? (i := 0) rfl))
  refine op T3 (mkF m 7 #[rv a0, iv 1, rv a2, iv 1, iv 3, iv 1, iv c0] [(.int 3), (.int 1)]) (fun _ k => st' _ (XS.iinc X3.here hx rfl (hb hby d7_32) rfl (l' := #[rv a0, iv 1, rv a2, iv 0, iv 3, iv 0, iv c0]) rfl (XS.iinc X3.here hx rfl (hb hby d7_35) rfl (l' := #[rv a0, iv 1, rv a2, iv 1, iv 3, iv 0, iv c0]) rfl (XS.iinc X3.here hx rfl (hb hby d7_38) rfl (l' := #[rv a0, iv 1, rv a2, iv 1, iv 3, iv 1, iv c0]) rfl (XS.goto X3.here hx rfl (pc0 := 41) (pc' := 3) rfl (hb hby d7_41) (by decide) (by decide) (XS.iload X3.here hx rfl (hb hby d7_3) rfl (XS.iload X3.here hx rfl (hb hby d7_5) rfl k))))))) ?_
  have hd7 : (1 : Int32) < (3 : Int32) := by decide
  refine op T3 (mkF m 12 #[rv a0, iv 1, rv a2, iv 1, iv 3, iv 1, iv c0] [(.int 1), (.ref a0)]) (fun _ k => XS.icmpNo X3.here hx rfl (hb hby d7_7) rfl (tlt hd7).2.1 (XS.aloadN X3.here hx rfl (hb hby d7_10) rfl rfl (XS.iloadN X3.here hx rfl (hb hby d7_11) rfl k))) ?_
  obtain ⟨k8, cl8, Ar8, q8, S8, N8, H8, G8⟩ := id f5
  have hin8 : ¬ ((1 : Int32) < 0 ∨ cl8.slots.size ≤ ((1 : Int32)).toNatClampNeg) := inb_of S8 ⟨by decide, by decide⟩
  refine op T3 (mkF m 13 #[rv a0, iv 1, rv a2, iv 1, iv 3, iv 1, iv c0] [(.int c1)]) (fun t k => X3.caload hx (j := (1 : Int32)) (v := (.int c1)) (by rw [e3]; exact Ar8.1) (State.isArrayOf_alike hZ.alike Ar8.2.1) Ar8.2.2 hin8 (H8.at hin8 rfl) (g := (mkF m 12 #[rv a0, iv 1, rv a2, iv 1, iv 3, iv 1, iv c0] [(.int 1), (.ref a0)])) rfl rfl (hb hby d7_12) t k) ?_
  refine op T3 (mkF m 20 #[rv a0, iv 1, rv a2, iv 1, iv 3, iv 1, iv c1] [(.int 255), (.int c1)]) (fun _ k => XS.istore X3.here hx rfl (hb hby d7_13) rfl (l' := #[rv a0, iv 1, rv a2, iv 1, iv 3, iv 1, iv c1]) rfl (XS.iload X3.here hx rfl (hb hby d7_15) rfl (XS.sipush X3.here hx rfl (hb hby d7_17) k))) ?_
  have hc20 : (255 : Int32) < c1 := hB
  refine op T3 (mkF m 25 #[rv a0, iv 1, rv a2, iv 1, iv 3, iv 1, iv c1] [(.int 1)]) (fun _ k => XS.icmpNo X3.here hx rfl (hb hby d7_20) rfl (tlt hc20).2.2.2 (XS.iload X3.here hx rfl (hb hby d7_23) rfl k)) ?_
  exact own_ret (w := (.int 1)) X3 hx Bd.notSynchronized Bd.returns rfl (Or.inl ⟨rfl, by simp, _, rfl⟩) (hb hby d7_25) (by rw [e3]; exact ⟨NF3, KP3, f6⟩) (by decide) (by decide)
theorem ef_c2U31 (m : MethodId) (a0 a2 : Addr) : entryFrame m #[(.ref a0), (.int 0), (.ref a2), (.int 0), (.int 3)] 7 = mkF m 0 #[rv a0, iv 0, rv a2, iv 0, iv 3, uu, uu] [] := by first | (simp [entryFrame, mkF, argsToLocals, Value.category]; done) | rfl
set_option maxRecDepth 65536 in
set_option maxHeartbeats 40000000 in
theorem rmc2U31 (l : Launch) (Z : State) (aw : Array Value) (hw : HW aw Z) (ws : List Jvm.Cond) (c0 c1 c2 : Int32) (a0 a2 : Addr) (h0 : Heap) (n0 : Nat) (SZ0 : n0 ≤ h0.size) (G0 : own_Pv Z h0 a0 (3 : Int32) [c0, c1, c2] .char) (Gp : own_Pv Z h0 a2 (3 : Int32) [(0 : Int32), (0 : Int32), (0 : Int32)] .byte) (J0 : own_J Z h0) (Gv : a0 ≠ a2) (hL0 : ¬ (255 : Int32) < c0) (hB : (255 : Int32) < c1) (Gn : n0 ≤ a2) :
    MetFree l y24 (head1 (Jvm.Cond.code y24 Gj 7 (some .int) :: ws) Qc2U31) (fun a U => a = #[(.ref a0), (.int 0), (.ref a2), (.int 0), (.int 3)] ∧ Z.Warmed39 U.vm ∧ U.heap = h0) (fun _ _ _ _ _ => True) (fun _ U o U' => ∃ v L, o = .returned v ∧ own_Q (Rc2U31 (fc2U31_0 c0 c1 c2)) (Kc2U31 Z c0 c1 c2 a0 a2 h0 n0 (fc2U31_0 c0 c1 c2)) v U'.heap L ∧ FrameEnd U o U' L Qc2U31.cells Qc2U31.slots) := by
  refine MetFree.of_bodySF (plainFor_of_name own_pn4) hisR ?_
  intro p e s m args below meth c s₁ Bd hml0 hP hK
  obtain ⟨rfl, hZ, hh⟩ := hP
  have hml : c.maxLocals = 7 := hml0
  have e0 : s₁.heap = h0 := by rw [← hh, Bd.state]; rfl
  exact own_pre (fun t k => castTop (ef_c2U31 m a0 a2) k) (gc2U31_0 hw c0 c1 c2 a0 a2 Gv hL0 hB Bd hml hZ Gn s₁ (Stand.of_body Bd) e0 SZ0 (Fr.nil n0) (Keep.refl _ _) G0 Gp J0)
abbrev QcpU31 : Room := { frames := 3, cells := 2, slots := 9, locals := 64 }
/-! body 6, cpU31 -/
def RcpU31 (t : Unit) : Option Value := none
def KcpU31 (Z : State) (c0 c1 c2 : Int32) (a0 : Addr) (h0 : Heap) (n0 : Nat) (t : Unit) (h : Heap) (L : List Loc) (rb : Addr) : Prop := Fr n0 L ∧ Keep h0 h [] ∧ h0.size ≤ rb ∧ own_Pv Z h rb (6 : Int32) [(own_lo c0), (own_hi c0), (own_lo c1), (own_hi c1), (own_lo c2), (own_hi c2)] .byte ∧ own_J Z h
def fcpU31_0 (c0 c1 c2 : Int32) : Unit := ()
set_option maxRecDepth 65536 in
set_option maxHeartbeats 40000000 in
theorem gcpU31_0 (hw : HW aw Z) {h0 : Heap} {n0 : Nat} (c0 c1 c2 : Int32) (a0 : Addr) (hL0 : ¬ (255 : Int32) < c0) (hB : (255 : Int32) < c1) (hC : own_ch c1)
    (Bd : BodyLoose p l y25 (head1 (Jvm.Cond.code y25 Gi 6 (some (.array .byte)) :: ws) QcpU31) Gi 6 (some (.array .byte)) e s m #[(.ref a0), (.int 0), (.int 3)] below meth c s₁) (hml : c.maxLocals = 6) (hZ : Z.Warmed39 s.vm) (T0 : State) {locs : List Loc} (X0 : Stand p l e QcpU31 s m #[(.ref a0), (.int 0), (.int 3)] below meth c T0 locs 0 0) (e0 : T0.heap = h0) (SZ0 : n0 ≤ h0.size) (NF0 : Fr n0 locs) (KP0 : Keep h0 h0 []) (G0 : own_Pv Z h0 a0 (3 : Int32) [c0, c1, c2] .char) (J0 : own_J Z h0) :
    own_GoE p e below s QcpU31.cells QcpU31.slots (KcpU31 Z c0 c1 c2 a0 h0 n0 (fcpU31_0 c0 c1 c2)) (T0.setTop (mkF m 0 #[rv a0, iv 0, iv 3, uu, uu, uu] [])) := by
  have hx := Bd.exec
  have hby := Bd.bytes
  have hown : s.vm.findClass cU = some m.cls := findClass_of_methodNamed Bd.named
  have hnm := (name_of_methodNamed Bd.named Bd.method).1
  unfold fcpU31_0
  refine opE T0 (mkF m 1 #[rv a0, iv 0, iv 3, uu, uu, uu] [(.int 3)]) (fun _ k => XS.iloadN X0.here hx rfl (hb hby d6_0) rfl k) ?_
  obtain ⟨T1, h1, k1, X1, e1, E1, A1, st'⟩ := newP X0 hx hZ (ow hw 16 rfl) e0 (g := (mkF m 1 #[rv a0, iv 0, iv 3, uu, uu, uu] [(.int 3)])) rfl (hb hby d6_1) rfl (by decide) (cap := 3) (by decide) (by decide) (by decide) (by decide)
  obtain ⟨b1, g1⟩ : ∃ z, z = h0.size := ⟨_, rfl⟩
  rw [← g1] at A1 st'
  have Gu : n0 ≤ b1 := Nat.le_trans SZ0 (Nat.le_of_eq g1.symm)
  have Go : a0 ≠ b1 := Nat.ne_of_lt (Nat.lt_of_lt_of_le G0.lt (Nat.le_of_eq g1.symm))
  have Gr : h0.size ≤ b1 := Nat.le_trans KP0.1 (Nat.le_of_eq g1.symm)
  have KP1 := KP0.ext E1
  have SZ1 : n0 ≤ h1.size := Nat.le_trans SZ0 E1.1
  have f2 := G0.ext E1
  have f3 := own_J.ext J0 E1
  have f4 : own_Pv Z h1 b1 (3 : Int32) [(0 : Int32), (0 : Int32), (0 : Int32)] .byte := ⟨_, (Arv.new A1 (by decide)).pad (pad_rep [] (.int 0) 3)⟩
  refine opE T1 (mkF m 9 #[rv a0, iv 0, iv 3, rv b1, uu, uu] [(.int 3), (.int 0), (.ref b1), (.int 0), (.ref a0)]) (fun _ k => st' _ (XS.astoreN X1.here hx rfl (hb hby d6_3) rfl rfl (l' := #[rv a0, iv 0, iv 3, rv b1, uu, uu]) rfl (XS.aloadN X1.here hx rfl (hb hby d6_4) rfl rfl (XS.iloadN X1.here hx rfl (hb hby d6_5) rfl (XS.aloadN X1.here hx rfl (hb hby d6_6) rfl rfl (XS.iconst X1.here hx rfl (hb hby d6_7) (XS.iloadN X1.here hx rfl (hb hby d6_8) rfl k))))))) ?_
  obtain ⟨_, _, ⟨T5, L5, k5, n5⟩, -, X5', ⟨Lc5, hQ5, l5, y5, z5⟩, st'⟩ := Jvm.LawKit.callS X1 hx (y := y24) hown (mvT hZ (ow hw 37 rfl)) (mvT hZ (ow hw 38 rfl)) (mvT hZ (ow hw 35 rfl)) (mvT hZ (ow hw 39 rfl)) (by decide) (backOf (W := 0) (rmc2U31 l Z aw hw [] c0 c1 c2 a0 b1 h1 n0 SZ1 f2 f4 f3 Go hL0 hB Gu) hZ (ow hw 39 rfl) (ow hw 35 rfl) (by decide) (by decide)) (g := (mkF m 9 #[rv a0, iv 0, iv 3, rv b1, uu, uu] [(.int 3), (.int 0), (.ref b1), (.int 0), (.ref a0)])) rfl (by rw [hml]; rfl) (argsL := [(.ref a0), (.int 0), (.ref b1), (.int 0), (.int 3)]) (rest := []) (lenOf own_pd14 rfl) rfl (by show 2 * 0 + _ ≤ _; exact Nat.le_of_eq rfl) (hb hby d6_9) (fun _ _ => ⟨rfl, e1, (by decide : 1 + 0 ≤ _), (by decide : 3 + 0 ≤ _)⟩)
  dsimp only [Pt.U, Pt.locs, Pt.cells, Pt.slots] at X5' l5 y5 z5 st' hQ5
  subst l5 y5 z5
  obtain ⟨rfl, NFq5, KPq5, p5_0⟩ := hQ5
  have X5 : Stand p l e QcpU31 s m #[(.ref a0), (.int 0), (.int 3)] below meth c T5 _ 1 3 := X5'
  have NF5 := Fr.app NF0 NFq5
  have SZ5 : n0 ≤ T5.heap.size := Nat.le_trans SZ1 KPq5.1
  have KP5 : Keep h0 T5.heap [] := KP1.trans KPq5 (allS (Or.inr Gr) all0)
  have f6 := f2.keep KPq5 (ninS Go nin0)
  refine opE T5 (mkF m 17 #[rv a0, iv 0, iv 3, rv b1, iv 1, uu] [(.int 3), (.int 1)]) (fun _ k => st' _ (XS.istore X5.here hx rfl (hb hby d6_12) rfl (l' := #[rv a0, iv 0, iv 3, rv b1, iv 1, uu]) rfl (XS.iload X5.here hx rfl (hb hby d6_14) rfl (XS.iloadN X5.here hx rfl (hb hby d6_16) rfl k)))) ?_
  have hd7 : ¬ ((1 : Int32) = (3 : Int32)) := by decide
  refine opE T5 (mkF m 23 #[rv a0, iv 0, iv 3, rv b1, iv 1, uu] [(.int 3), (.int 0), (.ref a0)]) (fun _ k => XS.icmpNo X5.here hx rfl (hb hby d6_17) rfl (feq hd7).1 (XS.aloadN X5.here hx rfl (hb hby d6_20) rfl rfl (XS.iloadN X5.here hx rfl (hb hby d6_21) rfl (XS.iloadN X5.here hx rfl (hb hby d6_22) rfl k)))) ?_
  obtain ⟨_, _, ⟨T8, L8, k8, n8⟩, -, X8', ⟨Lc8, hQ8, l8, y8, z8⟩, st'⟩ := Jvm.LawKit.callS X5 hx (y := y23) hown (mvT hZ (ow hw 107 rfl)) (mvT hZ (ow hw 108 rfl)) (mvT hZ (ow hw 35 rfl)) (mvT hZ (ow hw 109 rfl)) (by decide) (backOf (W := 0) (rmtb3 l Z aw hw [] c0 c1 c2 a0 T5.heap n0 SZ5 f6 p5_0) hZ (ow hw 109 rfl) (ow hw 35 rfl) (by decide) (by decide)) (g := (mkF m 23 #[rv a0, iv 0, iv 3, rv b1, iv 1, uu] [(.int 3), (.int 0), (.ref a0)])) rfl (by rw [hml]; rfl) (argsL := [(.ref a0), (.int 0), (.int 3)]) (rest := []) (lenOf own_pd15 rfl) rfl (by show 2 * 0 + _ ≤ _; exact Nat.le_of_eq rfl) (hb hby d6_23) (fun _ _ => ⟨rfl, (rfl : T5.heap = T5.heap), (by decide : 1 + 1 ≤ _), (by decide : 3 + 6 ≤ _)⟩)
  dsimp only [Pt.U, Pt.locs, Pt.cells, Pt.slots] at X8' l8 y8 z8 st' hQ8
  subst l8 y8 z8
  obtain ⟨rfl, NFq8, KPq8, p8_0, p8_1⟩ := hQ8
  have X8 : Stand p l e QcpU31 s m #[(.ref a0), (.int 0), (.int 3)] below meth c T8 _ 2 9 := X8'
  have NF8 := Fr.app NF5 NFq8
  have SZ8 : n0 ≤ T8.heap.size := Nat.le_trans SZ5 KPq8.1
  have KP8 : Keep h0 T8.heap [] := KP5.trans KPq8 all0
  obtain ⟨b8, g8⟩ : ∃ z, z = T5.heap.size := ⟨_, rfl⟩
  simp only [Rtb3, ← g8] at st' p8_0
  have g_b8 : n0 ≤ b8 := Nat.le_trans SZ5 (Nat.le_of_eq g8.symm)
  have Hk : h0.size ≤ b8 := Nat.le_trans KP5.1 (Nat.le_of_eq g8.symm)
  have Hw : a0 ≠ b8 := Nat.ne_of_lt (Nat.lt_of_lt_of_le f6.lt (Nat.le_of_eq g8.symm))
  have f9 := f6.keep KPq8 nin0
  have f10 := own_J.keep p5_0 KPq8
  refine opE T8 (mkF m 32 #[rv a0, iv 0, iv 3, rv b1, iv 1, rv b8] [(.int 1), (.ref b8)]) (fun _ k => st' _ (XS.astore X8.here hx rfl (hb hby d6_26) rfl rfl (l' := #[rv a0, iv 0, iv 3, rv b1, iv 1, rv b8]) rfl (XS.aload X8.here hx rfl (hb hby d6_28) rfl rfl (XS.iload X8.here hx rfl (hb hby d6_30) rfl k)))) ?_
  obtain ⟨_, _, ⟨T11, L11, k11, n11⟩, -, X11', ⟨Lc11, hQ11, l11, y11, z11⟩, st'⟩ := Jvm.LawKit.callS X8 hx (y := y3) hown (mvT hZ (ow hw 123 rfl)) (mvT hZ (ow hw 124 rfl)) (mvT hZ (ow hw 35 rfl)) (mvT hZ (ow hw 125 rfl)) (by decide) (backOf (W := 0) (rmgc l Z aw hw [] (1 : Int32) (6 : Int32) (own_lo c1) (own_hi c1) b8 T8.heap n0 SZ8 (own_Pv.be p8_0 (by intro x hx; simp only [List.mem_cons, List.not_mem_nil, or_false] at hx; rcases hx with rfl | rfl <;> rfl)) p8_1 (by decide) (by decide) (by decide) (by decide)) hZ (ow hw 125 rfl) (ow hw 35 rfl) (by decide) (by decide)) (g := (mkF m 32 #[rv a0, iv 0, iv 3, rv b1, iv 1, rv b8] [(.int 1), (.ref b8)])) rfl (by rw [hml]; rfl) (argsL := [(.ref b8), (.int 1)]) (rest := []) (lenOf own_pd4 rfl) rfl (by show 2 * 0 + _ ≤ _; exact Nat.le_of_eq rfl) (hb hby d6_32) (fun _ _ => ⟨rfl, (rfl : T8.heap = T8.heap), (by decide : 2 + 0 ≤ _), (by decide : 9 + 0 ≤ _)⟩)
  dsimp only [Pt.U, Pt.locs, Pt.cells, Pt.slots] at X11' l11 y11 z11 st' hQ11
  subst l11 y11 z11
  obtain ⟨rfl, rfl, e11⟩ := hQ11
  have X11 : Stand p l e QcpU31 s m #[(.ref a0), (.int 0), (.int 3)] below meth c T11 _ 2 9 := own_locs X11'
  refine opE T11 (mkF m 38 #[rv a0, iv 0, iv 3, rv b1, iv 1, rv b8] [(.int 255), (.int (fgc_0 (1 : Int32) (6 : Int32) (own_lo c1) (own_hi c1)))]) (fun _ k => st' _ (XS.sipush X11.here hx rfl (hb hby d6_35) k)) ?_
  have hc38 : (255 : Int32) < (fgc_0 (1 : Int32) (6 : Int32) (own_lo c1) (own_hi c1)) := (by rw [own_gcE _ _ hC]; exact hB)
  refine opE T11 (mkF m 56 #[rv a0, iv 0, iv 3, rv b1, iv 1, rv b8] [(.ref b8)]) (fun _ k => XS.icmpYes X11.here hx rfl (pc0 := 38) (pc' := 54) rfl (hb hby d6_38) rfl (tlt hc38).2.2.1 (by decide) (by decide) (XS.aload X11.here hx rfl (hb hby d6_54) rfl rfl k)) ?_
  exact own_retE (b := b8) X11 hx Bd.notSynchronized Bd.returns rfl (hb hby d6_56) (by rw [e11]; exact ⟨NF8, KP8, Hk, p8_0, p8_1⟩) (by decide) (by decide)
theorem ef_cpU31 (m : MethodId) (a0 : Addr) : entryFrame m #[(.ref a0), (.int 0), (.int 3)] 6 = mkF m 0 #[rv a0, iv 0, iv 3, uu, uu, uu] [] := by first | (simp [entryFrame, mkF, argsToLocals, Value.category]; done) | rfl
set_option maxRecDepth 65536 in
set_option maxHeartbeats 40000000 in
theorem rmcpU31 (l : Launch) (Z : State) (aw : Array Value) (hw : HW aw Z) (ws : List Jvm.Cond) (c0 c1 c2 : Int32) (a0 : Addr) (h0 : Heap) (n0 : Nat) (SZ0 : n0 ≤ h0.size) (G0 : own_Pv Z h0 a0 (3 : Int32) [c0, c1, c2] .char) (J0 : own_J Z h0) (hL0 : ¬ (255 : Int32) < c0) (hB : (255 : Int32) < c1) (hC : own_ch c1) :
    MetFree l y25 (head1 (Jvm.Cond.code y25 Gi 6 (some (.array .byte)) :: ws) QcpU31) (fun a U => a = #[(.ref a0), (.int 0), (.int 3)] ∧ Z.Warmed39 U.vm ∧ U.heap = h0) (fun _ _ _ _ _ => True) (fun _ U o U' => ∃ v L, o = .returned v ∧ own_QE (KcpU31 Z c0 c1 c2 a0 h0 n0 (fcpU31_0 c0 c1 c2)) v U'.heap L ∧ FrameEnd U o U' L QcpU31.cells QcpU31.slots) := by
  refine MetFree.of_bodySF (plainFor_of_name own_pn4) hisR ?_
  intro p e s m args below meth c s₁ Bd hml0 hP hK
  obtain ⟨rfl, hZ, hh⟩ := hP
  have hml : c.maxLocals = 6 := hml0
  have e0 : s₁.heap = h0 := by rw [← hh, Bd.state]; rfl
  exact own_preE (fun t k => castTop (ef_cpU31 m a0) k) (gcpU31_0 hw c0 c1 c2 a0 hL0 hB hC Bd hml hZ s₁ (Stand.of_body Bd) e0 SZ0 (Fr.nil n0) (Keep.refl _ _) G0 J0)
abbrev Qc2U32 : Room := { frames := 0, cells := 0, slots := 0, locals := 0 }
/-! body 7, c2U32 -/
def Rc2U32 (t : Int32) : Option Value := some (.int t)
def Kc2U32 (Z : State) (c0 c1 c2 : Int32) (a0 a2 : Addr) (h0 : Heap) (n0 : Nat) (t : Int32) (h : Heap) (L : List Loc) : Prop := Fr n0 L ∧ Keep h0 h [a2] ∧ own_J Z h
def fc2U32_0 (c0 c1 c2 : Int32) : Int32 := (2 : Int32)
set_option maxRecDepth 65536 in
set_option maxHeartbeats 40000000 in
theorem gc2U32_0 (hw : HW aw Z) {h0 : Heap} {n0 : Nat} (c0 c1 c2 : Int32) (a0 a2 : Addr) (Gv : a0 ≠ a2) (hL0 : ¬ (255 : Int32) < c0) (hL1 : ¬ (255 : Int32) < c1) (hB : (255 : Int32) < c2)
    (Bd : BodyLoose p l y24 (head1 (Jvm.Cond.code y24 Gj 7 (some .int) :: ws) Qc2U32) Gj 7 (some .int) e s m #[(.ref a0), (.int 0), (.ref a2), (.int 0), (.int 3)] below meth c s₁) (hml : c.maxLocals = 7) (hZ : Z.Warmed39 s.vm) (Gn : n0 ≤ a2) (T0 : State) {locs : List Loc} (X0 : Stand p l e Qc2U32 s m #[(.ref a0), (.int 0), (.ref a2), (.int 0), (.int 3)] below meth c T0 locs 0 0) (e0 : T0.heap = h0) (SZ0 : n0 ≤ h0.size) (NF0 : Fr n0 locs) (KP0 : Keep h0 h0 [a2]) (G0 : own_Pv Z h0 a0 (3 : Int32) [c0, c1, c2] .char) (Gp : own_Pv Z h0 a2 (3 : Int32) [(0 : Int32), (0 : Int32), (0 : Int32)] .byte) (J0 : own_J Z h0) :
    own_Go p e below s Qc2U32.cells Qc2U32.slots (Rc2U32 (fc2U32_0 c0 c1 c2)) (Kc2U32 Z c0 c1 c2 a0 a2 h0 n0 (fc2U32_0 c0 c1 c2)) (T0.setTop (mkF m 0 #[rv a0, iv 0, rv a2, iv 0, iv 3, uu, uu] [])) := by
  have hx := Bd.exec
  have hby := Bd.bytes
  have hown : s.vm.findClass cU = some m.cls := findClass_of_methodNamed Bd.named
  have hnm := (name_of_methodNamed Bd.named Bd.method).1
  unfold fc2U32_0
  refine op T0 (mkF m 7 #[rv a0, iv 0, rv a2, iv 0, iv 3, iv 0, uu] [(.int 3), (.int 0)]) (fun _ k => XS.iconst X0.here hx rfl (hb hby d7_0) (XS.istore X0.here hx rfl (hb hby d7_1) rfl (l' := #[rv a0, iv 0, rv a2, iv 0, iv 3, iv 0, uu]) rfl (XS.iload X0.here hx rfl (hb hby d7_3) rfl (XS.iload X0.here hx rfl (hb hby d7_5) rfl k)))) ?_
  have hd1 : (0 : Int32) < (3 : Int32) := by decide
  refine op T0 (mkF m 12 #[rv a0, iv 0, rv a2, iv 0, iv 3, iv 0, uu] [(.int 0), (.ref a0)]) (fun _ k => XS.icmpNo X0.here hx rfl (hb hby d7_7) rfl (tlt hd1).2.1 (XS.aloadN X0.here hx rfl (hb hby d7_10) rfl rfl (XS.iloadN X0.here hx rfl (hb hby d7_11) rfl k))) ?_
  obtain ⟨k2, cl2, Ar2, q2, S2, N2, H2, G2⟩ := id G0
  have hin2 : ¬ ((0 : Int32) < 0 ∨ cl2.slots.size ≤ ((0 : Int32)).toNatClampNeg) := inb_of S2 ⟨by decide, by decide⟩
  refine op T0 (mkF m 13 #[rv a0, iv 0, rv a2, iv 0, iv 3, iv 0, uu] [(.int c0)]) (fun t k => X0.caload hx (j := (0 : Int32)) (v := (.int c0)) (by rw [e0]; exact Ar2.1) (State.isArrayOf_alike hZ.alike Ar2.2.1) Ar2.2.2 hin2 (H2.at hin2 rfl) (g := (mkF m 12 #[rv a0, iv 0, rv a2, iv 0, iv 3, iv 0, uu] [(.int 0), (.ref a0)])) rfl rfl (hb hby d7_12) t k) ?_
  refine op T0 (mkF m 20 #[rv a0, iv 0, rv a2, iv 0, iv 3, iv 0, iv c0] [(.int 255), (.int c0)]) (fun _ k => XS.istore X0.here hx rfl (hb hby d7_13) rfl (l' := #[rv a0, iv 0, rv a2, iv 0, iv 3, iv 0, iv c0]) rfl (XS.iload X0.here hx rfl (hb hby d7_15) rfl (XS.sipush X0.here hx rfl (hb hby d7_17) k))) ?_
  have hc20 : ¬ ((255 : Int32) < c0) := hL0
  refine op T0 (mkF m 31 #[rv a0, iv 0, rv a2, iv 0, iv 3, iv 0, iv c0] [(.int (c0.toInt8.toInt32)), (.int 0), (.ref a2)]) (fun _ k => XS.icmpYes X0.here hx rfl (pc0 := 20) (pc' := 26) rfl (hb hby d7_20) rfl (flt hc20).2.2.2 (by decide) (by decide) (XS.aloadN X0.here hx rfl (hb hby d7_26) rfl rfl (XS.iloadN X0.here hx rfl (hb hby d7_27) rfl (XS.iload X0.here hx rfl (hb hby d7_28) rfl (XS.i2b X0.here hx rfl (hb hby d7_30) rfl k))))) ?_
  obtain ⟨k3, cl3, Ar3, q3, S3, N3, H3, G3⟩ := id Gp
  have hin3 : ¬ ((0 : Int32) < 0 ∨ cl3.slots.size ≤ ((0 : Int32)).toNatClampNeg) := inb_of S3 ⟨by decide, by decide⟩
  obtain ⟨T3, h3, X3, e3, W3, st'⟩ := stB X0 hx hZ e0 Ar3 (j := (0 : Int32)) hin3 (g := (mkF m 31 #[rv a0, iv 0, rv a2, iv 0, iv 3, iv 0, iv c0] [(.int (c0.toInt8.toInt32)), (.int 0), (.ref a2)])) rfl rfl (hb hby d7_31)
  have f4 : own_Pv Z h3 a2 (3 : Int32) [((c0.toInt8.toInt32).toInt8.toInt32), (0 : Int32), (0 : Int32)] .byte := ⟨_, Arv.set Ar3 q3 S3 N3 H3 G3 (fits_nar_byte _) W3 0 rfl (Nat.le_of_ble_eq_true rfl)⟩
  have f5 := G0.other W3 Gv
  have f6 := own_J.wr J0 W3
  have NF3 := Fr.snoc X3 NF0 Gn
  have SZ3 : n0 ≤ h3.size := (Nat.le_trans SZ0 (Keep.of_wr W3).1)
  have KP3 : Keep h0 h3 [a2] := KP0.wr W3 (Or.inl (List.mem_of_getElem? (i := 0) rfl))
  refine op T3 (mkF m 7 #[rv a0, iv 1, rv a2, iv 1, iv 3, iv 1, iv c0] [(.int 3), (.int 1)]) (fun _ k => st' _ (XS.iinc X3.here hx rfl (hb hby d7_32) rfl (l' := #[rv a0, iv 1, rv a2, iv 0, iv 3, iv 0, iv c0]) rfl (XS.iinc X3.here hx rfl (hb hby d7_35) rfl (l' := #[rv a0, iv 1, rv a2, iv 1, iv 3, iv 0, iv c0]) rfl (XS.iinc X3.here hx rfl (hb hby d7_38) rfl (l' := #[rv a0, iv 1, rv a2, iv 1, iv 3, iv 1, iv c0]) rfl (XS.goto X3.here hx rfl (pc0 := 41) (pc' := 3) rfl (hb hby d7_41) (by decide) (by decide) (XS.iload X3.here hx rfl (hb hby d7_3) rfl (XS.iload X3.here hx rfl (hb hby d7_5) rfl k))))))) ?_
  have hd7 : (1 : Int32) < (3 : Int32) := by decide
  refine op T3 (mkF m 12 #[rv a0, iv 1, rv a2, iv 1, iv 3, iv 1, iv c0] [(.int 1), (.ref a0)]) (fun _ k => XS.icmpNo X3.here hx rfl (hb hby d7_7) rfl (tlt hd7).2.1 (XS.aloadN X3.here hx rfl (hb hby d7_10) rfl rfl (XS.iloadN X3.here hx rfl (hb hby d7_11) rfl k))) ?_
  obtain ⟨k8, cl8, Ar8, q8, S8, N8, H8, G8⟩ := id f5
  have hin8 : ¬ ((1 : Int32) < 0 ∨ cl8.slots.size ≤ ((1 : Int32)).toNatClampNeg) := inb_of S8 ⟨by decide, by decide⟩
  refine op T3 (mkF m 13 #[rv a0, iv 1, rv a2, iv 1, iv 3, iv 1, iv c0] [(.int c1)]) (fun t k => X3.caload hx (j := (1 : Int32)) (v := (.int c1)) (by rw [e3]; exact Ar8.1) (State.isArrayOf_alike hZ.alike Ar8.2.1) Ar8.2.2 hin8 (H8.at hin8 rfl) (g := (mkF m 12 #[rv a0, iv 1, rv a2, iv 1, iv 3, iv 1, iv c0] [(.int 1), (.ref a0)])) rfl rfl (hb hby d7_12) t k) ?_
  refine op T3 (mkF m 20 #[rv a0, iv 1, rv a2, iv 1, iv 3, iv 1, iv c1] [(.int 255), (.int c1)]) (fun _ k => XS.istore X3.here hx rfl (hb hby d7_13) rfl (l' := #[rv a0, iv 1, rv a2, iv 1, iv 3, iv 1, iv c1]) rfl (XS.iload X3.here hx rfl (hb hby d7_15) rfl (XS.sipush X3.here hx rfl (hb hby d7_17) k))) ?_
  have hc20 : ¬ ((255 : Int32) < c1) := hL1
  refine op T3 (mkF m 31 #[rv a0, iv 1, rv a2, iv 1, iv 3, iv 1, iv c1] [(.int (c1.toInt8.toInt32)), (.int 1), (.ref a2)]) (fun _ k => XS.icmpYes X3.here hx rfl (pc0 := 20) (pc' := 26) rfl (hb hby d7_20) rfl (flt hc20).2.2.2 (by decide) (by decide) (XS.aloadN X3.here hx rfl (hb hby d7_26) rfl rfl (XS.iloadN X3.here hx rfl (hb hby d7_27) rfl (XS.iload X3.here hx rfl (hb hby d7_28) rfl (XS.i2b X3.here hx rfl (hb hby d7_30) rfl k))))) ?_
  obtain ⟨k9, cl9, Ar9, q9, S9, N9, H9, G9⟩ := id f4
  have hin9 : ¬ ((1 : Int32) < 0 ∨ cl9.slots.size ≤ ((1 : Int32)).toNatClampNeg) := inb_of S9 ⟨by decide, by decide⟩
  obtain ⟨T9, h9, X9, e9, W9, st'⟩ := stB X3 hx hZ e3 Ar9 (j := (1 : Int32)) hin9 (g := (mkF m 31 #[rv a0, iv 1, rv a2, iv 1, iv 3, iv 1, iv c1] [(.int (c1.toInt8.toInt32)), (.int 1), (.ref a2)])) rfl rfl (hb hby d7_31)
  have f10 : own_Pv Z h9 a2 (3 : Int32) [((c0.toInt8.toInt32).toInt8.toInt32), ((c1.toInt8.toInt32).toInt8.toInt32), (0 : Int32)] .byte := ⟨_, Arv.set Ar9 q9 S9 N9 H9 G9 (fits_nar_byte _) W9 1 rfl (Nat.le_of_ble_eq_true rfl)⟩
  have f11 := f5.other W9 Gv
  have f12 := own_J.wr f6 W9
  have NF9 := Fr.snoc X9 NF3 Gn
  have SZ9 : n0 ≤ h9.size := (Nat.le_trans SZ3 (Keep.of_wr W9).1)
  have KP9 : Keep h0 h9 [a2] := KP3.wr W9 (Or.inl (List.mem_of_getElem? (i := 0) rfl))
  refine op T9 (mkF m 7 #[rv a0, iv 2, rv a2, iv 2, iv 3, iv 2, iv c1] [(.int 3), (.int 2)]) (fun _ k => st' _ (XS.iinc X9.here hx rfl (hb hby d7_32) rfl (l' := #[rv a0, iv 2, rv a2, iv 1, iv 3, iv 1, iv c1]) rfl (XS.iinc X9.here hx rfl (hb hby d7_35) rfl (l' := #[rv a0, iv 2, rv a2, iv 2, iv 3, iv 1, iv c1]) rfl (XS.iinc X9.here hx rfl (hb hby d7_38) rfl (l' := #[rv a0, iv 2, rv a2, iv 2, iv 3, iv 2, iv c1]) rfl (XS.goto X9.here hx rfl (pc0 := 41) (pc' := 3) rfl (hb hby d7_41) (by decide) (by decide) (XS.iload X9.here hx rfl (hb hby d7_3) rfl (XS.iload X9.here hx rfl (hb hby d7_5) rfl k))))))) ?_
  have hd13 : (2 : Int32) < (3 : Int32) := by decide
  refine op T9 (mkF m 12 #[rv a0, iv 2, rv a2, iv 2, iv 3, iv 2, iv c1] [(.int 2), (.ref a0)]) (fun _ k => XS.icmpNo X9.here hx rfl (hb hby d7_7) rfl (tlt hd13).2.1 (XS.aloadN X9.here hx rfl (hb hby d7_10) rfl rfl (XS.iloadN X9.here hx rfl (hb hby d7_11) rfl k))) ?_
  obtain ⟨k14, cl14, Ar14, q14, S14, N14, H14, G14⟩ := id f11
  have hin14 : ¬ ((2 : Int32) < 0 ∨ cl14.slots.size ≤ ((2 : Int32)).toNatClampNeg) := inb_of S14 ⟨by decide, by decide⟩
  refine op T9 (mkF m 13 #[rv a0, iv 2, rv a2, iv 2, iv 3, iv 2, iv c1] [(.int c2)]) (fun t k => X9.caload hx (j := (2 : Int32)) (v := (.int c2)) (by rw [e9]; exact Ar14.1) (State.isArrayOf_alike hZ.alike Ar14.2.1) Ar14.2.2 hin14 (H14.at hin14 rfl) (g := (mkF m 12 #[rv a0, iv 2, rv a2, iv 2, iv 3, iv 2, iv c1] [(.int 2), (.ref a0)])) rfl rfl (hb hby d7_12) t k) ?_
  refine op T9 (mkF m 20 #[rv a0, iv 2, rv a2, iv 2, iv 3, iv 2, iv c2] [(.int 255), (.int c2)]) (fun _ k => XS.istore X9.here hx rfl (hb hby d7_13) rfl (l' := #[rv a0, iv 2, rv a2, iv 2, iv 3, iv 2, iv c2]) rfl (XS.iload X9.here hx rfl (hb hby d7_15) rfl (XS.sipush X9.here hx rfl (hb hby d7_17) k))) ?_
  have hc20 : (255 : Int32) < c2 := hB
  refine op T9 (mkF m 25 #[rv a0, iv 2, rv a2, iv 2, iv 3, iv 2, iv c2] [(.int 2)]) (fun _ k => XS.icmpNo X9.here hx rfl (hb hby d7_20) rfl (tlt hc20).2.2.2 (XS.iload X9.here hx rfl (hb hby d7_23) rfl k)) ?_
  exact own_ret (w := (.int 2)) X9 hx Bd.notSynchronized Bd.returns rfl (Or.inl ⟨rfl, by simp, _, rfl⟩) (hb hby d7_25) (by rw [e9]; exact ⟨NF9, KP9, f12⟩) (by decide) (by decide)
theorem ef_c2U32 (m : MethodId) (a0 a2 : Addr) : entryFrame m #[(.ref a0), (.int 0), (.ref a2), (.int 0), (.int 3)] 7 = mkF m 0 #[rv a0, iv 0, rv a2, iv 0, iv 3, uu, uu] [] := by first | (simp [entryFrame, mkF, argsToLocals, Value.category]; done) | rfl
set_option maxRecDepth 65536 in
set_option maxHeartbeats 40000000 in
theorem rmc2U32 (l : Launch) (Z : State) (aw : Array Value) (hw : HW aw Z) (ws : List Jvm.Cond) (c0 c1 c2 : Int32) (a0 a2 : Addr) (h0 : Heap) (n0 : Nat) (SZ0 : n0 ≤ h0.size) (G0 : own_Pv Z h0 a0 (3 : Int32) [c0, c1, c2] .char) (Gp : own_Pv Z h0 a2 (3 : Int32) [(0 : Int32), (0 : Int32), (0 : Int32)] .byte) (J0 : own_J Z h0) (Gv : a0 ≠ a2) (hL0 : ¬ (255 : Int32) < c0) (hL1 : ¬ (255 : Int32) < c1) (hB : (255 : Int32) < c2) (Gn : n0 ≤ a2) :
    MetFree l y24 (head1 (Jvm.Cond.code y24 Gj 7 (some .int) :: ws) Qc2U32) (fun a U => a = #[(.ref a0), (.int 0), (.ref a2), (.int 0), (.int 3)] ∧ Z.Warmed39 U.vm ∧ U.heap = h0) (fun _ _ _ _ _ => True) (fun _ U o U' => ∃ v L, o = .returned v ∧ own_Q (Rc2U32 (fc2U32_0 c0 c1 c2)) (Kc2U32 Z c0 c1 c2 a0 a2 h0 n0 (fc2U32_0 c0 c1 c2)) v U'.heap L ∧ FrameEnd U o U' L Qc2U32.cells Qc2U32.slots) := by
  refine MetFree.of_bodySF (plainFor_of_name own_pn4) hisR ?_
  intro p e s m args below meth c s₁ Bd hml0 hP hK
  obtain ⟨rfl, hZ, hh⟩ := hP
  have hml : c.maxLocals = 7 := hml0
  have e0 : s₁.heap = h0 := by rw [← hh, Bd.state]; rfl
  exact own_pre (fun t k => castTop (ef_c2U32 m a0 a2) k) (gc2U32_0 hw c0 c1 c2 a0 a2 Gv hL0 hL1 hB Bd hml hZ Gn s₁ (Stand.of_body Bd) e0 SZ0 (Fr.nil n0) (Keep.refl _ _) G0 Gp J0)
abbrev QcpU32 : Room := { frames := 3, cells := 2, slots := 9, locals := 64 }
/-! body 6, cpU32 -/
def RcpU32 (t : Unit) : Option Value := none
def KcpU32 (Z : State) (c0 c1 c2 : Int32) (a0 : Addr) (h0 : Heap) (n0 : Nat) (t : Unit) (h : Heap) (L : List Loc) (rb : Addr) : Prop := Fr n0 L ∧ Keep h0 h [] ∧ h0.size ≤ rb ∧ own_Pv Z h rb (6 : Int32) [(own_lo c0), (own_hi c0), (own_lo c1), (own_hi c1), (own_lo c2), (own_hi c2)] .byte ∧ own_J Z h
def fcpU32_0 (c0 c1 c2 : Int32) : Unit := ()
set_option maxRecDepth 65536 in
set_option maxHeartbeats 40000000 in
theorem gcpU32_0 (hw : HW aw Z) {h0 : Heap} {n0 : Nat} (c0 c1 c2 : Int32) (a0 : Addr) (hL0 : ¬ (255 : Int32) < c0) (hL1 : ¬ (255 : Int32) < c1) (hB : (255 : Int32) < c2) (hC : own_ch c2)
    (Bd : BodyLoose p l y25 (head1 (Jvm.Cond.code y25 Gi 6 (some (.array .byte)) :: ws) QcpU32) Gi 6 (some (.array .byte)) e s m #[(.ref a0), (.int 0), (.int 3)] below meth c s₁) (hml : c.maxLocals = 6) (hZ : Z.Warmed39 s.vm) (T0 : State) {locs : List Loc} (X0 : Stand p l e QcpU32 s m #[(.ref a0), (.int 0), (.int 3)] below meth c T0 locs 0 0) (e0 : T0.heap = h0) (SZ0 : n0 ≤ h0.size) (NF0 : Fr n0 locs) (KP0 : Keep h0 h0 []) (G0 : own_Pv Z h0 a0 (3 : Int32) [c0, c1, c2] .char) (J0 : own_J Z h0) :
    own_GoE p e below s QcpU32.cells QcpU32.slots (KcpU32 Z c0 c1 c2 a0 h0 n0 (fcpU32_0 c0 c1 c2)) (T0.setTop (mkF m 0 #[rv a0, iv 0, iv 3, uu, uu, uu] [])) := by
  have hx := Bd.exec
  have hby := Bd.bytes
  have hown : s.vm.findClass cU = some m.cls := findClass_of_methodNamed Bd.named
  have hnm := (name_of_methodNamed Bd.named Bd.method).1
  unfold fcpU32_0
  refine opE T0 (mkF m 1 #[rv a0, iv 0, iv 3, uu, uu, uu] [(.int 3)]) (fun _ k => XS.iloadN X0.here hx rfl (hb hby d6_0) rfl k) ?_
  obtain ⟨T1, h1, k1, X1, e1, E1, A1, st'⟩ := newP X0 hx hZ (ow hw 16 rfl) e0 (g := (mkF m 1 #[rv a0, iv 0, iv 3, uu, uu, uu] [(.int 3)])) rfl (hb hby d6_1) rfl (by decide) (cap := 3) (by decide) (by decide) (by decide) (by decide)
  obtain ⟨b1, g1⟩ : ∃ z, z = h0.size := ⟨_, rfl⟩
  rw [← g1] at A1 st'
  have Gu : n0 ≤ b1 := Nat.le_trans SZ0 (Nat.le_of_eq g1.symm)
  have Go : a0 ≠ b1 := Nat.ne_of_lt (Nat.lt_of_lt_of_le G0.lt (Nat.le_of_eq g1.symm))
  have Gr : h0.size ≤ b1 := Nat.le_trans KP0.1 (Nat.le_of_eq g1.symm)
  have KP1 := KP0.ext E1
  have SZ1 : n0 ≤ h1.size := Nat.le_trans SZ0 E1.1
  have f2 := G0.ext E1
  have f3 := own_J.ext J0 E1
  have f4 : own_Pv Z h1 b1 (3 : Int32) [(0 : Int32), (0 : Int32), (0 : Int32)] .byte := ⟨_, (Arv.new A1 (by decide)).pad (pad_rep [] (.int 0) 3)⟩
  refine opE T1 (mkF m 9 #[rv a0, iv 0, iv 3, rv b1, uu, uu] [(.int 3), (.int 0), (.ref b1), (.int 0), (.ref a0)]) (fun _ k => st' _ (XS.astoreN X1.here hx rfl (hb hby d6_3) rfl rfl (l' := #[rv a0, iv 0, iv 3, rv b1, uu, uu]) rfl (XS.aloadN X1.here hx rfl (hb hby d6_4) rfl rfl (XS.iloadN X1.here hx rfl (hb hby d6_5) rfl (XS.aloadN X1.here hx rfl (hb hby d6_6) rfl rfl (XS.iconst X1.here hx rfl (hb hby d6_7) (XS.iloadN X1.here hx rfl (hb hby d6_8) rfl k))))))) ?_
  obtain ⟨_, _, ⟨T5, L5, k5, n5⟩, -, X5', ⟨Lc5, hQ5, l5, y5, z5⟩, st'⟩ := Jvm.LawKit.callS X1 hx (y := y24) hown (mvT hZ (ow hw 37 rfl)) (mvT hZ (ow hw 38 rfl)) (mvT hZ (ow hw 35 rfl)) (mvT hZ (ow hw 39 rfl)) (by decide) (backOf (W := 0) (rmc2U32 l Z aw hw [] c0 c1 c2 a0 b1 h1 n0 SZ1 f2 f4 f3 Go hL0 hL1 hB Gu) hZ (ow hw 39 rfl) (ow hw 35 rfl) (by decide) (by decide)) (g := (mkF m 9 #[rv a0, iv 0, iv 3, rv b1, uu, uu] [(.int 3), (.int 0), (.ref b1), (.int 0), (.ref a0)])) rfl (by rw [hml]; rfl) (argsL := [(.ref a0), (.int 0), (.ref b1), (.int 0), (.int 3)]) (rest := []) (lenOf own_pd14 rfl) rfl (by show 2 * 0 + _ ≤ _; exact Nat.le_of_eq rfl) (hb hby d6_9) (fun _ _ => ⟨rfl, e1, (by decide : 1 + 0 ≤ _), (by decide : 3 + 0 ≤ _)⟩)
  dsimp only [Pt.U, Pt.locs, Pt.cells, Pt.slots] at X5' l5 y5 z5 st' hQ5
  subst l5 y5 z5
  obtain ⟨rfl, NFq5, KPq5, p5_0⟩ := hQ5
  have X5 : Stand p l e QcpU32 s m #[(.ref a0), (.int 0), (.int 3)] below meth c T5 _ 1 3 := X5'
  have NF5 := Fr.app NF0 NFq5
  have SZ5 : n0 ≤ T5.heap.size := Nat.le_trans SZ1 KPq5.1
  have KP5 : Keep h0 T5.heap [] := KP1.trans KPq5 (allS (Or.inr Gr) all0)
  have f6 := f2.keep KPq5 (ninS Go nin0)
  refine opE T5 (mkF m 17 #[rv a0, iv 0, iv 3, rv b1, iv 2, uu] [(.int 3), (.int 2)]) (fun _ k => st' _ (XS.istore X5.here hx rfl (hb hby d6_12) rfl (l' := #[rv a0, iv 0, iv 3, rv b1, iv 2, uu]) rfl (XS.iload X5.here hx rfl (hb hby d6_14) rfl (XS.iloadN X5.here hx rfl (hb hby d6_16) rfl k)))) ?_
  have hd7 : ¬ ((2 : Int32) = (3 : Int32)) := by decide
  refine opE T5 (mkF m 23 #[rv a0, iv 0, iv 3, rv b1, iv 2, uu] [(.int 3), (.int 0), (.ref a0)]) (fun _ k => XS.icmpNo X5.here hx rfl (hb hby d6_17) rfl (feq hd7).1 (XS.aloadN X5.here hx rfl (hb hby d6_20) rfl rfl (XS.iloadN X5.here hx rfl (hb hby d6_21) rfl (XS.iloadN X5.here hx rfl (hb hby d6_22) rfl k)))) ?_
  obtain ⟨_, _, ⟨T8, L8, k8, n8⟩, -, X8', ⟨Lc8, hQ8, l8, y8, z8⟩, st'⟩ := Jvm.LawKit.callS X5 hx (y := y23) hown (mvT hZ (ow hw 107 rfl)) (mvT hZ (ow hw 108 rfl)) (mvT hZ (ow hw 35 rfl)) (mvT hZ (ow hw 109 rfl)) (by decide) (backOf (W := 0) (rmtb3 l Z aw hw [] c0 c1 c2 a0 T5.heap n0 SZ5 f6 p5_0) hZ (ow hw 109 rfl) (ow hw 35 rfl) (by decide) (by decide)) (g := (mkF m 23 #[rv a0, iv 0, iv 3, rv b1, iv 2, uu] [(.int 3), (.int 0), (.ref a0)])) rfl (by rw [hml]; rfl) (argsL := [(.ref a0), (.int 0), (.int 3)]) (rest := []) (lenOf own_pd15 rfl) rfl (by show 2 * 0 + _ ≤ _; exact Nat.le_of_eq rfl) (hb hby d6_23) (fun _ _ => ⟨rfl, (rfl : T5.heap = T5.heap), (by decide : 1 + 1 ≤ _), (by decide : 3 + 6 ≤ _)⟩)
  dsimp only [Pt.U, Pt.locs, Pt.cells, Pt.slots] at X8' l8 y8 z8 st' hQ8
  subst l8 y8 z8
  obtain ⟨rfl, NFq8, KPq8, p8_0, p8_1⟩ := hQ8
  have X8 : Stand p l e QcpU32 s m #[(.ref a0), (.int 0), (.int 3)] below meth c T8 _ 2 9 := X8'
  have NF8 := Fr.app NF5 NFq8
  have SZ8 : n0 ≤ T8.heap.size := Nat.le_trans SZ5 KPq8.1
  have KP8 : Keep h0 T8.heap [] := KP5.trans KPq8 all0
  obtain ⟨b8, g8⟩ : ∃ z, z = T5.heap.size := ⟨_, rfl⟩
  simp only [Rtb3, ← g8] at st' p8_0
  have g_b8 : n0 ≤ b8 := Nat.le_trans SZ5 (Nat.le_of_eq g8.symm)
  have Hk : h0.size ≤ b8 := Nat.le_trans KP5.1 (Nat.le_of_eq g8.symm)
  have Hw : a0 ≠ b8 := Nat.ne_of_lt (Nat.lt_of_lt_of_le f6.lt (Nat.le_of_eq g8.symm))
  have f9 := f6.keep KPq8 nin0
  have f10 := own_J.keep p5_0 KPq8
  refine opE T8 (mkF m 32 #[rv a0, iv 0, iv 3, rv b1, iv 2, rv b8] [(.int 2), (.ref b8)]) (fun _ k => st' _ (XS.astore X8.here hx rfl (hb hby d6_26) rfl rfl (l' := #[rv a0, iv 0, iv 3, rv b1, iv 2, rv b8]) rfl (XS.aload X8.here hx rfl (hb hby d6_28) rfl rfl (XS.iload X8.here hx rfl (hb hby d6_30) rfl k)))) ?_
  obtain ⟨_, _, ⟨T11, L11, k11, n11⟩, -, X11', ⟨Lc11, hQ11, l11, y11, z11⟩, st'⟩ := Jvm.LawKit.callS X8 hx (y := y3) hown (mvT hZ (ow hw 123 rfl)) (mvT hZ (ow hw 124 rfl)) (mvT hZ (ow hw 35 rfl)) (mvT hZ (ow hw 125 rfl)) (by decide) (backOf (W := 0) (rmgc l Z aw hw [] (2 : Int32) (6 : Int32) (own_lo c2) (own_hi c2) b8 T8.heap n0 SZ8 (own_Pv.be p8_0 (by intro x hx; simp only [List.mem_cons, List.not_mem_nil, or_false] at hx; rcases hx with rfl | rfl <;> rfl)) p8_1 (by decide) (by decide) (by decide) (by decide)) hZ (ow hw 125 rfl) (ow hw 35 rfl) (by decide) (by decide)) (g := (mkF m 32 #[rv a0, iv 0, iv 3, rv b1, iv 2, rv b8] [(.int 2), (.ref b8)])) rfl (by rw [hml]; rfl) (argsL := [(.ref b8), (.int 2)]) (rest := []) (lenOf own_pd4 rfl) rfl (by show 2 * 0 + _ ≤ _; exact Nat.le_of_eq rfl) (hb hby d6_32) (fun _ _ => ⟨rfl, (rfl : T8.heap = T8.heap), (by decide : 2 + 0 ≤ _), (by decide : 9 + 0 ≤ _)⟩)
  dsimp only [Pt.U, Pt.locs, Pt.cells, Pt.slots] at X11' l11 y11 z11 st' hQ11
  subst l11 y11 z11
  obtain ⟨rfl, rfl, e11⟩ := hQ11
  have X11 : Stand p l e QcpU32 s m #[(.ref a0), (.int 0), (.int 3)] below meth c T11 _ 2 9 := own_locs X11'
  refine opE T11 (mkF m 38 #[rv a0, iv 0, iv 3, rv b1, iv 2, rv b8] [(.int 255), (.int (fgc_0 (2 : Int32) (6 : Int32) (own_lo c2) (own_hi c2)))]) (fun _ k => st' _ (XS.sipush X11.here hx rfl (hb hby d6_35) k)) ?_
  have hc38 : (255 : Int32) < (fgc_0 (2 : Int32) (6 : Int32) (own_lo c2) (own_hi c2)) := (by rw [own_gcE _ _ hC]; exact hB)
  refine opE T11 (mkF m 56 #[rv a0, iv 0, iv 3, rv b1, iv 2, rv b8] [(.ref b8)]) (fun _ k => XS.icmpYes X11.here hx rfl (pc0 := 38) (pc' := 54) rfl (hb hby d6_38) rfl (tlt hc38).2.2.1 (by decide) (by decide) (XS.aload X11.here hx rfl (hb hby d6_54) rfl rfl k)) ?_
  exact own_retE (b := b8) X11 hx Bd.notSynchronized Bd.returns rfl (hb hby d6_56) (by rw [e11]; exact ⟨NF8, KP8, Hk, p8_0, p8_1⟩) (by decide) (by decide)
theorem ef_cpU32 (m : MethodId) (a0 : Addr) : entryFrame m #[(.ref a0), (.int 0), (.int 3)] 6 = mkF m 0 #[rv a0, iv 0, iv 3, uu, uu, uu] [] := by first | (simp [entryFrame, mkF, argsToLocals, Value.category]; done) | rfl
set_option maxRecDepth 65536 in
set_option maxHeartbeats 40000000 in
theorem rmcpU32 (l : Launch) (Z : State) (aw : Array Value) (hw : HW aw Z) (ws : List Jvm.Cond) (c0 c1 c2 : Int32) (a0 : Addr) (h0 : Heap) (n0 : Nat) (SZ0 : n0 ≤ h0.size) (G0 : own_Pv Z h0 a0 (3 : Int32) [c0, c1, c2] .char) (J0 : own_J Z h0) (hL0 : ¬ (255 : Int32) < c0) (hL1 : ¬ (255 : Int32) < c1) (hB : (255 : Int32) < c2) (hC : own_ch c2) :
    MetFree l y25 (head1 (Jvm.Cond.code y25 Gi 6 (some (.array .byte)) :: ws) QcpU32) (fun a U => a = #[(.ref a0), (.int 0), (.int 3)] ∧ Z.Warmed39 U.vm ∧ U.heap = h0) (fun _ _ _ _ _ => True) (fun _ U o U' => ∃ v L, o = .returned v ∧ own_QE (KcpU32 Z c0 c1 c2 a0 h0 n0 (fcpU32_0 c0 c1 c2)) v U'.heap L ∧ FrameEnd U o U' L QcpU32.cells QcpU32.slots) := by
  refine MetFree.of_bodySF (plainFor_of_name own_pn4) hisR ?_
  intro p e s m args below meth c s₁ Bd hml0 hP hK
  obtain ⟨rfl, hZ, hh⟩ := hP
  have hml : c.maxLocals = 6 := hml0
  have e0 : s₁.heap = h0 := by rw [← hh, Bd.state]; rfl
  exact own_preE (fun t k => castTop (ef_cpU32 m a0) k) (gcpU32_0 hw c0 c1 c2 a0 hL0 hL1 hB hC Bd hml hZ s₁ (Stand.of_body Bd) e0 SZ0 (Fr.nil n0) (Keep.refl _ _) G0 J0)
theorem own_ch0E {c : Int32} (p zz : Int32) (h : own_ch c) (hl : ¬ (255 : Int32) < c) : fch0_0 p zz (own_by c) = c := by
  rw [fch0_0, own_lE _ _ h hl, own_narc h]
theorem own_ch1E {c : Int32} (p zz : Int32) (h : own_ch c) : fch1_0 p zz (own_lo c) (own_hi c) = c := by
  rw [fch1_0, fuch_0, own_gcE _ _ h, own_narc h, own_narc h]
set_option maxRecDepth 65536 in
set_option maxHeartbeats 40000000 in
theorem rmcpU1 (l : Launch) (Z : State) (aw : Array Value) (hw : HW aw Z) (ws : List Jvm.Cond) (c0 : Int32) (a0 : Addr) (h0 : Heap) (n0 : Nat) (SZ0 : n0 ≤ h0.size) (G0 : own_Pv Z h0 a0 (1 : Int32) [c0] .char) (J0 : own_J Z h0) (HU : ((255 : Int32) < c0)) (HC : own_ch c0) :
    MetFree l y25 (head1 (Jvm.Cond.code y25 Gi 6 (some (.array .byte)) :: ws) QcpU10) (fun a U => a = #[(.ref a0), (.int 0), (.int 1)] ∧ Z.Warmed39 U.vm ∧ U.heap = h0) (fun _ _ _ _ _ => True) (fun _ U o U' => ∃ v L, o = .returned v ∧ own_QE (KcpU10 Z c0 a0 h0 n0 (fcpU10_0 c0)) v U'.heap L ∧ FrameEnd U o U' L QcpU10.cells QcpU10.slots) := by
  have k0 := HU
  · exact own_metE (rmcpU10 l Z aw hw ws c0 a0 h0 n0 SZ0 G0 J0 k0 HC) (fun _ _ _ q => q)
abbrev Qi4L1 : Room := { frames := 4, cells := 2, slots := 3, locals := 89 }
theorem own_pd16 : parseMethodDescriptor "([BI)B" = some ⟨[(.array .byte), .int], some .byte⟩ := by decide +kernel
theorem la0 (hw : HW aw Z) : LaT Z aw cS cS "value" "[B" := ⟨(Or.inr (ow hw 17 rfl)), (.array .byte), by decide⟩
theorem la1 (hw : HW aw Z) : LaT Z aw cS cS "coder" "B" := ⟨(Or.inr (ow hw 18 rfl)), .byte, by decide⟩
theorem sn0 (hw : HW aw Z) : NS Z cS "value" "[B" cS "coder" "B" := own_sn (la0 hw) (la1 hw) (by decide)
theorem sn1 (hw : HW aw Z) : NS Z cS "coder" "B" cS "value" "[B" := own_sn (la1 hw) (la0 hw) (by decide)
/-! body 2, i4L1 -/
theorem d2_0 : De Gk 0 (.aload_n 0) 1 := by decide +kernel
theorem d2_1 : De Gk 1 (.invokespecial 1) 3 := by decide +kernel
theorem d2_4 : De Gk 4 (.iload_n 3) 1 := by decide +kernel
theorem d2_5 : De Gk 5 (.ifCond .ne 22) 3 := by decide +kernel
theorem d2_27 : De Gk 27 (.getstatic 38) 3 := by decide +kernel
theorem d2_30 : De Gk 30 (.ifCond .eq 28) 3 := by decide +kernel
theorem d2_33 : De Gk 33 (.aload_n 1) 1 := by decide +kernel
theorem d2_34 : De Gk 34 (.iload_n 2) 1 := by decide +kernel
theorem d2_35 : De Gk 35 (.iload_n 3) 1 := by decide +kernel
theorem d2_36 : De Gk 36 (.invokestatic 177) 3 := by decide +kernel
theorem d2_39 : De Gk 39 (.astore 5) 2 := by decide +kernel
theorem d2_41 : De Gk 41 (.aload_n 0) 1 := by decide +kernel
theorem d2_42 : De Gk 42 (.aload 5) 2 := by decide +kernel
theorem d2_44 : De Gk 44 (.iload_n 3) 1 := by decide +kernel
theorem d2_45 : De Gk 45 (.invokestatic 47) 3 := by decide +kernel
theorem d2_48 : De Gk 48 (.putfield 15) 3 := by decide +kernel
theorem d2_51 : De Gk 51 (.aload_n 0) 1 := by decide +kernel
theorem d2_52 : De Gk 52 (.aload 5) 2 := by decide +kernel
theorem d2_54 : De Gk 54 (.putfield 9) 3 := by decide +kernel
theorem d2_57 : De Gk 57 (.return_) 1 := by decide +kernel
abbrev y26 : MethodName := ⟨cS, "<init>", "([CIILjava/lang/Void;)V"⟩
def Ri4L1 (t : Unit) : Option Value := none
def Ki4L1 (Z : State) (c0 : Int32) (a0 a1 : Addr) (h0 : Heap) (n0 : Nat) (t : Unit) (h : Heap) (L : List Loc) : Prop := ∃ xb : Addr, Fr n0 L ∧ Keep h0 h [a0] ∧ h0.size ≤ xb ∧ Exa Z h a0 cS ∧ Fld Z h a0 cS "value" "[B" (.ref xb) ∧ Fld Z h a0 cS "coder" "B" (.int 0) ∧ own_Pv Z h xb (1 : Int32) [(own_by c0)] .byte ∧ own_J Z h
def fi4L1_0 (c0 : Int32) : Unit := ()
set_option maxRecDepth 65536 in
set_option maxHeartbeats 40000000 in
theorem gi4L1_0 (hw : HW aw Z) {h0 : Heap} {n0 : Nat} (c0 : Int32) (a0 a1 : Addr) (Gh : a0 ≠ a1) (hL0 : ¬ (255 : Int32) < c0)
    (Bd : BodyLoose p l y26 (head1 (Jvm.Cond.code y26 Gk 6 none :: ws) Qi4L1) Gk 6 none e s m #[(.ref a0), (.ref a1), (.int 0), (.int 1), .null] below meth c s₁) (hml : c.maxLocals = 6) (hZ : Z.Warmed39 s.vm) (Gb : n0 ≤ a0) (T0 : State) {locs : List Loc} (X0 : Stand p l e Qi4L1 s m #[(.ref a0), (.ref a1), (.int 0), (.int 1), .null] below meth c T0 locs 0 0) (e0 : T0.heap = h0) (SZ0 : n0 ≤ h0.size) (NF0 : Fr n0 locs) (KP0 : Keep h0 h0 [a0]) (Ga : Exa Z h0 a0 cS) (Gf : Fld Z h0 a0 cS "value" "[B" .null) (Gc : Fld Z h0 a0 cS "coder" "B" (.int 0)) (Ge : own_Pv Z h0 a1 (1 : Int32) [c0] .char) (J0 : own_J Z h0) :
    own_Go p e below s Qi4L1.cells Qi4L1.slots (Ri4L1 (fi4L1_0 c0)) (Ki4L1 Z c0 a0 a1 h0 n0 (fi4L1_0 c0)) (T0.setTop (mkF m 0 #[rv a0, rv a1, iv 0, iv 1, .val .null, uu] [])) := by
  have hx := Bd.exec
  have hby := Bd.bytes
  have hown : s.vm.findClass cS = some m.cls := findClass_of_methodNamed Bd.named
  have hnm := (name_of_methodNamed Bd.named Bd.method).1
  unfold fi4L1_0
  refine op T0 (mkF m 1 #[rv a0, rv a1, iv 0, iv 1, .val .null, uu] [(.ref a0)]) (fun _ k => XS.aloadN X0.here hx rfl (hb hby d2_0) rfl rfl k) ?_
  obtain ⟨T1, X1, e1, st'⟩ := initO X0 hx hZ hown (ow hw 12 rfl) (ow hw 13 rfl) (ow hw 14 rfl) e0 (g := (mkF m 1 #[rv a0, rv a1, iv 0, iv 1, .val .null, uu] [(.ref a0)])) rfl (by rw [hml]; rfl) rfl (hb hby d2_1) (by decide) (W := 0) (by show 2 * 0 + _ ≤ _; exact Nat.le_of_eq rfl) (by decide)
  refine op T1 (mkF m 5 #[rv a0, rv a1, iv 0, iv 1, .val .null, uu] [(.int 1)]) (fun _ k => st' _ (XS.iloadN X1.here hx rfl (hb hby d2_4) rfl k)) ?_
  have hc5 : ¬ ((1 : Int32) = (0 : Int32)) := (by decide)
  refine op T1 (mkF m 27 #[rv a0, rv a1, iv 0, iv 1, .val .null, uu] []) (fun _ k => XS.ifYes X1.here hx rfl (pc0 := 5) (pc' := 27) rfl (hb hby d2_5) rfl ((if0 _ _).trans (feq hc5).2) (by decide) (by decide) k) ?_
  obtain ⟨cs, sf, js⟩ := id J0
  obtain ⟨T2, X2, e2, st'⟩ := getS2 X1 hx hZ hown (host := "") (Or.inl (ow hw 32 rfl)) Via.refl e1 js.1 (g := (mkF m 27 #[rv a0, rv a1, iv 0, iv 1, .val .null, uu] [])) rfl (hb hby d2_27)
  refine op T2 (mkF m 30 #[rv a0, rv a1, iv 0, iv 1, .val .null, uu] [(.int cs)]) (fun _ k => st' _ k) ?_
  have hc30 : ¬ (cs = (0 : Int32)) := js.2.2.2.2.2.1
  refine op T2 (mkF m 36 #[rv a0, rv a1, iv 0, iv 1, .val .null, uu] [(.int 1), (.int 0), (.ref a1)]) (fun _ k => XS.ifNo X2.here hx rfl (hb hby d2_30) rfl ((if0 _ _).trans (feq hc30).1) (XS.aloadN X2.here hx rfl (hb hby d2_33) rfl rfl (XS.iloadN X2.here hx rfl (hb hby d2_34) rfl (XS.iloadN X2.here hx rfl (hb hby d2_35) rfl k)))) ?_
  obtain ⟨_, _, ⟨T3, L3, k3, n3⟩, -, X3', ⟨Lc3, hQ3, l3, y3, z3⟩, st'⟩ := Jvm.LawKit.callS X2 hx (y := y25) hown (mvT hZ (ow hw 33 rfl)) (mvT hZ (ow hw 34 rfl)) (mvT hZ (ow hw 35 rfl)) (mvT hZ (ow hw 36 rfl)) (by decide) (backOf (W := 0) (rmcpL1 l Z aw hw [] c0 a1 h0 n0 SZ0 Ge J0 hL0) hZ (ow hw 36 rfl) (ow hw 35 rfl) (by decide) (by decide)) (g := (mkF m 36 #[rv a0, rv a1, iv 0, iv 1, .val .null, uu] [(.int 1), (.int 0), (.ref a1)])) rfl (by rw [hml]; rfl) (argsL := [(.ref a1), (.int 0), (.int 1)]) (rest := []) (lenOf own_pd15 rfl) rfl (by show 2 * 0 + _ ≤ _; exact Nat.le_of_eq rfl) (hb hby d2_36) (fun _ _ => ⟨rfl, e2, (by decide : 0 + 2 ≤ _), (by decide : 0 + 3 ≤ _)⟩)
  dsimp only [Pt.U, Pt.locs, Pt.cells, Pt.slots] at X3' l3 y3 z3 st' hQ3
  subst l3 y3 z3
  obtain ⟨b3_rb, rfl, NFq3, KPq3, sz3_rb, p3_0, p3_1⟩ := hQ3
  have X3 : Stand p l e Qi4L1 s m #[(.ref a0), (.ref a1), (.int 0), (.int 1), .null] below meth c T3 _ 2 3 := X3'
  have NF3 := Fr.app NF0 NFq3
  have SZ3 : n0 ≤ T3.heap.size := Nat.le_trans SZ0 KPq3.1
  have KP3 : Keep h0 T3.heap [a0] := KP0.trans KPq3 all0
  have Hx : n0 ≤ b3_rb := Nat.le_trans SZ0 sz3_rb
  have Hm : h0.size ≤ b3_rb := Nat.le_trans KP0.1 sz3_rb
  have Ha : a0 ≠ b3_rb := Nat.ne_of_lt (Nat.lt_of_lt_of_le Ga.lt sz3_rb)
  have Hy : a1 ≠ b3_rb := Nat.ne_of_lt (Nat.lt_of_lt_of_le Ge.lt sz3_rb)
  have f4 := Ga.keep KPq3
  have f5 := Gf.keep KPq3 nin0
  have f6 := Gc.keep KPq3 nin0
  have f7 := Ge.keep KPq3 nin0
  have f8 := own_J.keep J0 KPq3
  refine op T3 (mkF m 45 #[rv a0, rv a1, iv 0, iv 1, .val .null, rv b3_rb] [(.int 1), (.ref b3_rb), (.ref a0)]) (fun _ k => st' _ (XS.astore X3.here hx rfl (hb hby d2_39) rfl rfl (l' := #[rv a0, rv a1, iv 0, iv 1, .val .null, rv b3_rb]) rfl (XS.aloadN X3.here hx rfl (hb hby d2_41) rfl rfl (XS.aload X3.here hx rfl (hb hby d2_42) rfl rfl (XS.iloadN X3.here hx rfl (hb hby d2_44) rfl k))))) ?_
  obtain ⟨_, _, ⟨T9, L9, k9, n9⟩, -, X9', ⟨Lc9, hQ9, l9, y9, z9⟩, st'⟩ := Jvm.LawKit.callS X3 hx (y := y19) hown (mvT hZ (ow hw 40 rfl)) (mvT hZ (ow hw 41 rfl)) (mvT hZ (ow hw 35 rfl)) (mvT hZ (ow hw 42 rfl)) (by decide) (backOf (W := 1) (rmcfl l Z aw hw [] (1 : Int32) (1 : Int32) b3_rb T3.heap n0 SZ3 (own_Pv.be p3_0 (fun _ k => nomatch k))) hZ (ow hw 42 rfl) (ow hw 35 rfl) (by decide) (by decide)) (g := (mkF m 45 #[rv a0, rv a1, iv 0, iv 1, .val .null, rv b3_rb] [(.int 1), (.ref b3_rb), (.ref a0)])) rfl (by rw [hml]; rfl) (argsL := [(.ref b3_rb), (.int 1)]) (rest := [(.ref a0)]) (lenOf own_pd16 rfl) rfl (by show 2 * 0 + _ ≤ _; exact Nat.le_of_eq rfl) (hb hby d2_45) (fun _ _ => ⟨rfl, (rfl : T3.heap = T3.heap), (by decide : 2 + 0 ≤ _), (by decide : 3 + 0 ≤ _)⟩)
  dsimp only [Pt.U, Pt.locs, Pt.cells, Pt.slots] at X9' l9 y9 z9 st' hQ9
  subst l9 y9 z9
  obtain ⟨rfl, rfl, e9⟩ := hQ9
  have X9 : Stand p l e Qi4L1 s m #[(.ref a0), (.ref a1), (.int 0), (.int 1), .null] below meth c T9 _ 2 3 := own_locs X9'
  refine op T9 (mkF m 48 #[rv a0, rv a1, iv 0, iv 1, .val .null, rv b3_rb] [(.int 0), (.ref a0)]) (fun _ k => st' _ k) ?_
  obtain ⟨T10, h10, X10, e10, W10, st'⟩ := putFN X9 hx hZ hown (ow hw 22 rfl) Via.refl e9 f6 f4 (Or.inr ⟨(ow hw 18 rfl), rfl, hnm⟩) (ow hw 3 rfl) (ty := .byte) (v' := (.int 0)) (by decide) rfl (by decide) (g := (mkF m 48 #[rv a0, rv a1, iv 0, iv 1, .val .null, rv b3_rb] [(.int 0), (.ref a0)])) rfl rfl (hb hby d2_48)
  have f11 := f6.same W10
  have f12 := f4.wr W10
  have f13 := f5.other W10 (Or.inr (sn0 hw))
  have f14 := f7.other W10 (Ne.symm Gh)
  have f15 := p3_0.other W10 (Ne.symm Ha)
  have f16 := own_J.wr p3_1 W10
  have NF10 := Fr.snoc X10 NF3 Gb
  have SZ10 : n0 ≤ h10.size := (Nat.le_trans SZ3 (Keep.of_wr W10).1)
  have KP10 : Keep h0 h10 [a0] := KP3.wr W10 (Or.inl (List.mem_of_getElem? (i := 0) rfl))
  refine op T10 (mkF m 54 #[rv a0, rv a1, iv 0, iv 1, .val .null, rv b3_rb] [(.ref b3_rb), (.ref a0)]) (fun _ k => st' _ (XS.aloadN X10.here hx rfl (hb hby d2_51) rfl rfl (XS.aload X10.here hx rfl (hb hby d2_52) rfl rfl k))) ?_
  obtain ⟨T17, h17, X17, e17, W17, st'⟩ := putF X10 hx hZ hown (host := "") (Or.inl (ow hw 21 rfl)) Via.refl e10 f13 f12 (Or.inr ⟨(ow hw 17 rfl), rfl, hnm⟩) (ow hw 3 rfl) (ty := (.array .byte)) (by decide) rfl rfl (g := (mkF m 54 #[rv a0, rv a1, iv 0, iv 1, .val .null, rv b3_rb] [(.ref b3_rb), (.ref a0)])) rfl rfl (hb hby d2_54)
  have f18 := f13.same W17
  have f19 := f12.wr W17
  have f20 := f11.other W17 (Or.inr (sn1 hw))
  have f21 := f14.other W17 (Ne.symm Gh)
  have f22 := f15.other W17 (Ne.symm Ha)
  have f23 := own_J.wr f16 W17
  have NF17 := Fr.snoc X17 NF10 Gb
  have SZ17 : n0 ≤ h17.size := (Nat.le_trans SZ10 (Keep.of_wr W17).1)
  have KP17 : Keep h0 h17 [a0] := KP10.wr W17 (Or.inl (List.mem_of_getElem? (i := 0) rfl))
  refine op T17 (mkF m 57 #[rv a0, rv a1, iv 0, iv 1, .val .null, rv b3_rb] []) (fun _ k => st' _ k) ?_
  exact own_retV X17 hx Bd.notSynchronized Bd.returns (hb hby d2_57) (by rw [e17]; exact ⟨b3_rb, NF17, KP17, Hm, f19, f18, f20, f22, f23⟩) (by decide) (by decide)
theorem ef_i4L1 (m : MethodId) (a0 a1 : Addr) : entryFrame m #[(.ref a0), (.ref a1), (.int 0), (.int 1), .null] 6 = mkF m 0 #[rv a0, rv a1, iv 0, iv 1, .val .null, uu] [] := by first | (simp [entryFrame, mkF, argsToLocals, Value.category]; done) | rfl
set_option maxRecDepth 65536 in
set_option maxHeartbeats 40000000 in
theorem rmi4L1 (l : Launch) (Z : State) (aw : Array Value) (hw : HW aw Z) (ws : List Jvm.Cond) (c0 : Int32) (a0 a1 : Addr) (h0 : Heap) (n0 : Nat) (SZ0 : n0 ≤ h0.size) (Ga : Exa Z h0 a0 cS) (Gf : Fld Z h0 a0 cS "value" "[B" .null) (Gc : Fld Z h0 a0 cS "coder" "B" (.int 0)) (Ge : own_Pv Z h0 a1 (1 : Int32) [c0] .char) (J0 : own_J Z h0) (Gh : a0 ≠ a1) (hL0 : ¬ (255 : Int32) < c0) (Gb : n0 ≤ a0) :
    MetFree l y26 (head1 (Jvm.Cond.code y26 Gk 6 none :: ws) Qi4L1) (fun a U => a = #[(.ref a0), (.ref a1), (.int 0), (.int 1), .null] ∧ Z.Warmed39 U.vm ∧ U.heap = h0) (fun _ _ _ _ _ => True) (fun _ U o U' => ∃ v L, o = .returned v ∧ own_Q (Ri4L1 (fi4L1_0 c0)) (Ki4L1 Z c0 a0 a1 h0 n0 (fi4L1_0 c0)) v U'.heap L ∧ FrameEnd U o U' L Qi4L1.cells Qi4L1.slots) := by
  refine MetFree.of_bodySF (plainFor_of_name own_pn3) hisR ?_
  intro p e s m args below meth c s₁ Bd hml0 hP hK
  obtain ⟨rfl, hZ, hh⟩ := hP
  have hml : c.maxLocals = 6 := hml0
  have e0 : s₁.heap = h0 := by rw [← hh, Bd.state]; rfl
  exact own_pre (fun t k => castTop (ef_i4L1 m a0 a1) k) (gi4L1_0 hw c0 a0 a1 Gh hL0 Bd hml hZ Gb s₁ (Stand.of_body Bd) e0 SZ0 (Fr.nil n0) (Keep.refl _ _) Ga Gf Gc Ge J0)
abbrev Qi1L1 : Room := { frames := 5, cells := 2, slots := 3, locals := 114 }
theorem own_pd17 : parseMethodDescriptor "([CIILjava/lang/Void;)V" = some ⟨[(.array .char), .int, .int, (.object "java/lang/Void")], none⟩ := by decide +kernel
/-! body 1, i1L1 -/
theorem d1_0 : De Gq 0 (.aload_n 0) 1 := by decide +kernel
theorem d1_1 : De Gq 1 (.aload_n 1) 1 := by decide +kernel
theorem d1_2 : De Gq 2 (.iconst 0) 1 := by decide +kernel
theorem d1_3 : De Gq 3 (.aload_n 1) 1 := by decide +kernel
theorem d1_4 : De Gq 4 (.arraylength) 1 := by decide +kernel
theorem d1_5 : De Gq 5 (.aconst_null) 1 := by decide +kernel
theorem d1_6 : De Gq 6 (.invokespecial 27) 3 := by decide +kernel
theorem d1_9 : De Gq 9 (.return_) 1 := by decide +kernel
abbrev y27 : MethodName := ⟨cS, "<init>", "([C)V"⟩
def Ri1L1 (t : Unit) : Option Value := none
def Ki1L1 (Z : State) (c0 : Int32) (a0 a1 : Addr) (h0 : Heap) (n0 : Nat) (t : Unit) (h : Heap) (L : List Loc) : Prop := ∃ xb : Addr, Fr n0 L ∧ Keep h0 h [a0] ∧ h0.size ≤ xb ∧ Exa Z h a0 cS ∧ Fld Z h a0 cS "value" "[B" (.ref xb) ∧ Fld Z h a0 cS "coder" "B" (.int 0) ∧ own_Pv Z h xb (1 : Int32) [(own_by c0)] .byte ∧ own_J Z h
def fi1L1_0 (c0 : Int32) : Unit := ()
set_option maxRecDepth 65536 in
set_option maxHeartbeats 40000000 in
theorem gi1L1_0 (hw : HW aw Z) {h0 : Heap} {n0 : Nat} (c0 : Int32) (a0 a1 : Addr) (Gh : a0 ≠ a1) (hL0 : ¬ (255 : Int32) < c0)
    (Bd : BodyLoose p l y27 (head1 (Jvm.Cond.code y27 Gq 2 none :: ws) Qi1L1) Gq 2 none e s m #[(.ref a0), (.ref a1)] below meth c s₁) (hml : c.maxLocals = 2) (hZ : Z.Warmed39 s.vm) (Gb : n0 ≤ a0) (T0 : State) {locs : List Loc} (X0 : Stand p l e Qi1L1 s m #[(.ref a0), (.ref a1)] below meth c T0 locs 0 0) (e0 : T0.heap = h0) (SZ0 : n0 ≤ h0.size) (NF0 : Fr n0 locs) (KP0 : Keep h0 h0 [a0]) (Ga : Exa Z h0 a0 cS) (Gf : Fld Z h0 a0 cS "value" "[B" .null) (Gc : Fld Z h0 a0 cS "coder" "B" (.int 0)) (Ge : own_Pv Z h0 a1 (1 : Int32) [c0] .char) (J0 : own_J Z h0) :
    own_Go p e below s Qi1L1.cells Qi1L1.slots (Ri1L1 (fi1L1_0 c0)) (Ki1L1 Z c0 a0 a1 h0 n0 (fi1L1_0 c0)) (T0.setTop (mkF m 0 #[rv a0, rv a1] [])) := by
  have hx := Bd.exec
  have hby := Bd.bytes
  have hown : s.vm.findClass cS = some m.cls := findClass_of_methodNamed Bd.named
  have hnm := (name_of_methodNamed Bd.named Bd.method).1
  unfold fi1L1_0
  refine op T0 (mkF m 4 #[rv a0, rv a1] [(.ref a1), (.int 0), (.ref a1), (.ref a0)]) (fun _ k => XS.aloadN X0.here hx rfl (hb hby d1_0) rfl rfl (XS.aloadN X0.here hx rfl (hb hby d1_1) rfl rfl (XS.iconst X0.here hx rfl (hb hby d1_2) (XS.aloadN X0.here hx rfl (hb hby d1_3) rfl rfl k)))) ?_
  obtain ⟨k1, cl1, Ar1, q1, S1, N1, H1, G1⟩ := id Ge
  refine op T0 (mkF m 5 #[rv a0, rv a1] [(.int 1), (.int 0), (.ref a1), (.ref a0)]) (fun t k => X0.arraylength hx (by rw [e0]; exact Ar1.1) (State.isArrayOf_alike hZ.alike Ar1.2.1) (g := (mkF m 4 #[rv a0, rv a1] [(.ref a1), (.int 0), (.ref a1), (.ref a0)])) rfl rfl (hb hby d1_4) t (by rw [len_of S1 N1]; exact k)) ?_
  refine op T0 (mkF m 6 #[rv a0, rv a1] [.null, (.int 1), (.int 0), (.ref a1), (.ref a0)]) (fun _ k => XS.aconstNull X0.here hx rfl (hb hby d1_5) k) ?_
  obtain ⟨_, _, ⟨T2, L2, k2, n2⟩, -, X2', ⟨Lc2, hQ2, l2, y2, z2⟩, st'⟩ := X0.specialBack hx (y := y26) rfl hown (mvT hZ (ow hw 8 rfl)) (mvT hZ (ow hw 9 rfl)) (mvT hZ (ow hw 11 rfl)) (by decide) (backOf (W := 0) (rmi4L1 l Z aw hw [] c0 a0 a1 h0 n0 SZ0 Ga Gf Gc Ge J0 Gh hL0 Gb) hZ (ow hw 11 rfl) (ow hw 4 rfl) (by decide) (by decide)) (g := (mkF m 6 #[rv a0, rv a1] [.null, (.int 1), (.int 0), (.ref a1), (.ref a0)])) rfl (by rw [hml]; rfl) (Steps.refl _) (a := a0) (argsL := [(.ref a1), (.int 0), (.int 1), .null]) (rest := []) (lenOf own_pd17 rfl) rfl (by show 2 * 0 + _ ≤ _; exact Nat.le_of_eq rfl) (hb hby d1_6) (fun _ _ => ⟨rfl, e0, (by decide : 0 + 2 ≤ _), (by decide : 0 + 3 ≤ _)⟩)
  dsimp only [Pt.U, Pt.locs, Pt.cells, Pt.slots] at X2' l2 y2 z2 st' hQ2
  subst l2 y2 z2
  obtain ⟨rfl, b2_xb, NFq2, KPq2, sz2_xb, p2_0, p2_1, p2_2, p2_3, p2_4⟩ := hQ2
  have X2 : Stand p l e Qi1L1 s m #[(.ref a0), (.ref a1)] below meth c T2 _ 2 3 := X2'
  have NF2 := Fr.app NF0 NFq2
  have SZ2 : n0 ≤ T2.heap.size := Nat.le_trans SZ0 KPq2.1
  have KP2 : Keep h0 T2.heap [a0] := KP0.trans KPq2 (allS (Or.inl (List.mem_of_getElem? (i := 0) rfl)) all0)
  have Hz : n0 ≤ b2_xb := Nat.le_trans SZ0 sz2_xb
  have Hn : h0.size ≤ b2_xb := Nat.le_trans KP0.1 sz2_xb
  have J1 : a0 ≠ b2_xb := Nat.ne_of_lt (Nat.lt_of_lt_of_le Ga.lt sz2_xb)
  have J2 : a1 ≠ b2_xb := Nat.ne_of_lt (Nat.lt_of_lt_of_le Ge.lt sz2_xb)
  have f3 := Ga.keep KPq2
  have f4 := Ge.keep KPq2 (ninS (Ne.symm Gh) nin0)
  refine op T2 (mkF m 9 #[rv a0, rv a1] []) (fun _ k => st'.trans k) ?_
  exact own_retV X2 hx Bd.notSynchronized Bd.returns (hb hby d1_9) ⟨b2_xb, NF2, KP2, Hn, p2_0, p2_1, p2_2, p2_3, p2_4⟩ (by decide) (by decide)
theorem ef_i1L1 (m : MethodId) (a0 a1 : Addr) : entryFrame m #[(.ref a0), (.ref a1)] 2 = mkF m 0 #[rv a0, rv a1] [] := by first | (simp [entryFrame, mkF, argsToLocals, Value.category]; done) | rfl
set_option maxRecDepth 65536 in
set_option maxHeartbeats 40000000 in
theorem rmi1L1 (l : Launch) (Z : State) (aw : Array Value) (hw : HW aw Z) (ws : List Jvm.Cond) (c0 : Int32) (a0 a1 : Addr) (h0 : Heap) (n0 : Nat) (SZ0 : n0 ≤ h0.size) (Ga : Exa Z h0 a0 cS) (Gf : Fld Z h0 a0 cS "value" "[B" .null) (Gc : Fld Z h0 a0 cS "coder" "B" (.int 0)) (Ge : own_Pv Z h0 a1 (1 : Int32) [c0] .char) (J0 : own_J Z h0) (Gh : a0 ≠ a1) (hL0 : ¬ (255 : Int32) < c0) (Gb : n0 ≤ a0) :
    MetFree l y27 (head1 (Jvm.Cond.code y27 Gq 2 none :: ws) Qi1L1) (fun a U => a = #[(.ref a0), (.ref a1)] ∧ Z.Warmed39 U.vm ∧ U.heap = h0) (fun _ _ _ _ _ => True) (fun _ U o U' => ∃ v L, o = .returned v ∧ own_Q (Ri1L1 (fi1L1_0 c0)) (Ki1L1 Z c0 a0 a1 h0 n0 (fi1L1_0 c0)) v U'.heap L ∧ FrameEnd U o U' L Qi1L1.cells Qi1L1.slots) := by
  refine MetFree.of_bodySF (plainFor_of_name own_pn3) hisR ?_
  intro p e s m args below meth c s₁ Bd hml0 hP hK
  obtain ⟨rfl, hZ, hh⟩ := hP
  have hml : c.maxLocals = 2 := hml0
  have e0 : s₁.heap = h0 := by rw [← hh, Bd.state]; rfl
  exact own_pre (fun t k => castTop (ef_i1L1 m a0 a1) k) (gi1L1_0 hw c0 a0 a1 Gh hL0 Bd hml hZ Gb s₁ (Stand.of_body Bd) e0 SZ0 (Fr.nil n0) (Keep.refl _ _) Ga Gf Gc Ge J0)
abbrev Qi4U1 : Room := { frames := 4, cells := 2, slots := 3, locals := 89 }
/-! body 2, i4U1 -/
def Ri4U1 (t : Unit) : Option Value := none
def Ki4U1 (Z : State) (c0 : Int32) (a0 a1 : Addr) (h0 : Heap) (n0 : Nat) (t : Unit) (h : Heap) (L : List Loc) : Prop := ∃ xb : Addr, Fr n0 L ∧ Keep h0 h [a0] ∧ h0.size ≤ xb ∧ Exa Z h a0 cS ∧ Fld Z h a0 cS "value" "[B" (.ref xb) ∧ Fld Z h a0 cS "coder" "B" (.int 1) ∧ own_Pv Z h xb (2 : Int32) [(own_lo c0), (own_hi c0)] .byte ∧ own_J Z h
def fi4U1_0 (c0 : Int32) : Unit := ()
set_option maxRecDepth 65536 in
set_option maxHeartbeats 40000000 in
theorem gi4U1_0 (hw : HW aw Z) {h0 : Heap} {n0 : Nat} (c0 : Int32) (a0 a1 : Addr) (Gh : a0 ≠ a1) (HU : ((255 : Int32) < c0)) (HC : own_ch c0)
    (Bd : BodyLoose p l y26 (head1 (Jvm.Cond.code y26 Gk 6 none :: ws) Qi4U1) Gk 6 none e s m #[(.ref a0), (.ref a1), (.int 0), (.int 1), .null] below meth c s₁) (hml : c.maxLocals = 6) (hZ : Z.Warmed39 s.vm) (Gb : n0 ≤ a0) (T0 : State) {locs : List Loc} (X0 : Stand p l e Qi4U1 s m #[(.ref a0), (.ref a1), (.int 0), (.int 1), .null] below meth c T0 locs 0 0) (e0 : T0.heap = h0) (SZ0 : n0 ≤ h0.size) (NF0 : Fr n0 locs) (KP0 : Keep h0 h0 [a0]) (Ga : Exa Z h0 a0 cS) (Gf : Fld Z h0 a0 cS "value" "[B" .null) (Gc : Fld Z h0 a0 cS "coder" "B" (.int 0)) (Ge : own_Pv Z h0 a1 (1 : Int32) [c0] .char) (J0 : own_J Z h0) :
    own_Go p e below s Qi4U1.cells Qi4U1.slots (Ri4U1 (fi4U1_0 c0)) (Ki4U1 Z c0 a0 a1 h0 n0 (fi4U1_0 c0)) (T0.setTop (mkF m 0 #[rv a0, rv a1, iv 0, iv 1, .val .null, uu] [])) := by
  have hx := Bd.exec
  have hby := Bd.bytes
  have hown : s.vm.findClass cS = some m.cls := findClass_of_methodNamed Bd.named
  have hnm := (name_of_methodNamed Bd.named Bd.method).1
  unfold fi4U1_0
  refine op T0 (mkF m 1 #[rv a0, rv a1, iv 0, iv 1, .val .null, uu] [(.ref a0)]) (fun _ k => XS.aloadN X0.here hx rfl (hb hby d2_0) rfl rfl k) ?_
  obtain ⟨T1, X1, e1, st'⟩ := initO X0 hx hZ hown (ow hw 12 rfl) (ow hw 13 rfl) (ow hw 14 rfl) e0 (g := (mkF m 1 #[rv a0, rv a1, iv 0, iv 1, .val .null, uu] [(.ref a0)])) rfl (by rw [hml]; rfl) rfl (hb hby d2_1) (by decide) (W := 0) (by show 2 * 0 + _ ≤ _; exact Nat.le_of_eq rfl) (by decide)
  refine op T1 (mkF m 5 #[rv a0, rv a1, iv 0, iv 1, .val .null, uu] [(.int 1)]) (fun _ k => st' _ (XS.iloadN X1.here hx rfl (hb hby d2_4) rfl k)) ?_
  have hc5 : ¬ ((1 : Int32) = (0 : Int32)) := (by decide)
  refine op T1 (mkF m 27 #[rv a0, rv a1, iv 0, iv 1, .val .null, uu] []) (fun _ k => XS.ifYes X1.here hx rfl (pc0 := 5) (pc' := 27) rfl (hb hby d2_5) rfl ((if0 _ _).trans (feq hc5).2) (by decide) (by decide) k) ?_
  obtain ⟨cs, sf, js⟩ := id J0
  obtain ⟨T2, X2, e2, st'⟩ := getS2 X1 hx hZ hown (host := "") (Or.inl (ow hw 32 rfl)) Via.refl e1 js.1 (g := (mkF m 27 #[rv a0, rv a1, iv 0, iv 1, .val .null, uu] [])) rfl (hb hby d2_27)
  refine op T2 (mkF m 30 #[rv a0, rv a1, iv 0, iv 1, .val .null, uu] [(.int cs)]) (fun _ k => st' _ k) ?_
  have hc30 : ¬ (cs = (0 : Int32)) := js.2.2.2.2.2.1
  refine op T2 (mkF m 36 #[rv a0, rv a1, iv 0, iv 1, .val .null, uu] [(.int 1), (.int 0), (.ref a1)]) (fun _ k => XS.ifNo X2.here hx rfl (hb hby d2_30) rfl ((if0 _ _).trans (feq hc30).1) (XS.aloadN X2.here hx rfl (hb hby d2_33) rfl rfl (XS.iloadN X2.here hx rfl (hb hby d2_34) rfl (XS.iloadN X2.here hx rfl (hb hby d2_35) rfl k)))) ?_
  obtain ⟨_, _, ⟨T3, L3, k3, n3⟩, -, X3', ⟨Lc3, hQ3, l3, y3, z3⟩, st'⟩ := Jvm.LawKit.callS X2 hx (y := y25) hown (mvT hZ (ow hw 33 rfl)) (mvT hZ (ow hw 34 rfl)) (mvT hZ (ow hw 35 rfl)) (mvT hZ (ow hw 36 rfl)) (by decide) (backOf (W := 0) (rmcpU1 l Z aw hw [] c0 a1 h0 n0 SZ0 Ge J0 HU HC) hZ (ow hw 36 rfl) (ow hw 35 rfl) (by decide) (by decide)) (g := (mkF m 36 #[rv a0, rv a1, iv 0, iv 1, .val .null, uu] [(.int 1), (.int 0), (.ref a1)])) rfl (by rw [hml]; rfl) (argsL := [(.ref a1), (.int 0), (.int 1)]) (rest := []) (lenOf own_pd15 rfl) rfl (by show 2 * 0 + _ ≤ _; exact Nat.le_of_eq rfl) (hb hby d2_36) (fun _ _ => ⟨rfl, e2, (by decide : 0 + 2 ≤ _), (by decide : 0 + 3 ≤ _)⟩)
  dsimp only [Pt.U, Pt.locs, Pt.cells, Pt.slots] at X3' l3 y3 z3 st' hQ3
  subst l3 y3 z3
  obtain ⟨b3_rb, rfl, NFq3, KPq3, sz3_rb, p3_0, p3_1⟩ := hQ3
  have X3 : Stand p l e Qi4U1 s m #[(.ref a0), (.ref a1), (.int 0), (.int 1), .null] below meth c T3 _ 2 3 := X3'
  have NF3 := Fr.app NF0 NFq3
  have SZ3 : n0 ≤ T3.heap.size := Nat.le_trans SZ0 KPq3.1
  have KP3 : Keep h0 T3.heap [a0] := KP0.trans KPq3 all0
  have Hx : n0 ≤ b3_rb := Nat.le_trans SZ0 sz3_rb
  have Hm : h0.size ≤ b3_rb := Nat.le_trans KP0.1 sz3_rb
  have Ha : a0 ≠ b3_rb := Nat.ne_of_lt (Nat.lt_of_lt_of_le Ga.lt sz3_rb)
  have Hy : a1 ≠ b3_rb := Nat.ne_of_lt (Nat.lt_of_lt_of_le Ge.lt sz3_rb)
  have f4 := Ga.keep KPq3
  have f5 := Gf.keep KPq3 nin0
  have f6 := Gc.keep KPq3 nin0
  have f7 := Ge.keep KPq3 nin0
  have f8 := own_J.keep J0 KPq3
  refine op T3 (mkF m 45 #[rv a0, rv a1, iv 0, iv 1, .val .null, rv b3_rb] [(.int 1), (.ref b3_rb), (.ref a0)]) (fun _ k => st' _ (XS.astore X3.here hx rfl (hb hby d2_39) rfl rfl (l' := #[rv a0, rv a1, iv 0, iv 1, .val .null, rv b3_rb]) rfl (XS.aloadN X3.here hx rfl (hb hby d2_41) rfl rfl (XS.aload X3.here hx rfl (hb hby d2_42) rfl rfl (XS.iloadN X3.here hx rfl (hb hby d2_44) rfl k))))) ?_
  obtain ⟨_, _, ⟨T9, L9, k9, n9⟩, -, X9', ⟨Lc9, hQ9, l9, y9, z9⟩, st'⟩ := Jvm.LawKit.callS X3 hx (y := y19) hown (mvT hZ (ow hw 40 rfl)) (mvT hZ (ow hw 41 rfl)) (mvT hZ (ow hw 35 rfl)) (mvT hZ (ow hw 42 rfl)) (by decide) (backOf (W := 1) (rmcfl l Z aw hw [] (1 : Int32) (2 : Int32) b3_rb T3.heap n0 SZ3 (own_Pv.be p3_0 (fun _ k => nomatch k))) hZ (ow hw 42 rfl) (ow hw 35 rfl) (by decide) (by decide)) (g := (mkF m 45 #[rv a0, rv a1, iv 0, iv 1, .val .null, rv b3_rb] [(.int 1), (.ref b3_rb), (.ref a0)])) rfl (by rw [hml]; rfl) (argsL := [(.ref b3_rb), (.int 1)]) (rest := [(.ref a0)]) (lenOf own_pd16 rfl) rfl (by show 2 * 0 + _ ≤ _; exact Nat.le_of_eq rfl) (hb hby d2_45) (fun _ _ => ⟨rfl, (rfl : T3.heap = T3.heap), (by decide : 2 + 0 ≤ _), (by decide : 3 + 0 ≤ _)⟩)
  dsimp only [Pt.U, Pt.locs, Pt.cells, Pt.slots] at X9' l9 y9 z9 st' hQ9
  subst l9 y9 z9
  obtain ⟨rfl, rfl, e9⟩ := hQ9
  have X9 : Stand p l e Qi4U1 s m #[(.ref a0), (.ref a1), (.int 0), (.int 1), .null] below meth c T9 _ 2 3 := own_locs X9'
  refine op T9 (mkF m 48 #[rv a0, rv a1, iv 0, iv 1, .val .null, rv b3_rb] [(.int 1), (.ref a0)]) (fun _ k => st' _ k) ?_
  obtain ⟨T10, h10, X10, e10, W10, st'⟩ := putFN X9 hx hZ hown (ow hw 22 rfl) Via.refl e9 f6 f4 (Or.inr ⟨(ow hw 18 rfl), rfl, hnm⟩) (ow hw 3 rfl) (ty := .byte) (v' := (.int 1)) (by decide) rfl (by decide) (g := (mkF m 48 #[rv a0, rv a1, iv 0, iv 1, .val .null, rv b3_rb] [(.int 1), (.ref a0)])) rfl rfl (hb hby d2_48)
  have f11 := f6.same W10
  have f12 := f4.wr W10
  have f13 := f5.other W10 (Or.inr (sn0 hw))
  have f14 := f7.other W10 (Ne.symm Gh)
  have f15 := p3_0.other W10 (Ne.symm Ha)
  have f16 := own_J.wr p3_1 W10
  have NF10 := Fr.snoc X10 NF3 Gb
  have SZ10 : n0 ≤ h10.size := (Nat.le_trans SZ3 (Keep.of_wr W10).1)
  have KP10 : Keep h0 h10 [a0] := KP3.wr W10 (Or.inl (List.mem_of_getElem? (i := 0) rfl))
  refine op T10 (mkF m 54 #[rv a0, rv a1, iv 0, iv 1, .val .null, rv b3_rb] [(.ref b3_rb), (.ref a0)]) (fun _ k => st' _ (XS.aloadN X10.here hx rfl (hb hby d2_51) rfl rfl (XS.aload X10.here hx rfl (hb hby d2_52) rfl rfl k))) ?_
  obtain ⟨T17, h17, X17, e17, W17, st'⟩ := putF X10 hx hZ hown (host := "") (Or.inl (ow hw 21 rfl)) Via.refl e10 f13 f12 (Or.inr ⟨(ow hw 17 rfl), rfl, hnm⟩) (ow hw 3 rfl) (ty := (.array .byte)) (by decide) rfl rfl (g := (mkF m 54 #[rv a0, rv a1, iv 0, iv 1, .val .null, rv b3_rb] [(.ref b3_rb), (.ref a0)])) rfl rfl (hb hby d2_54)
  have f18 := f13.same W17
  have f19 := f12.wr W17
  have f20 := f11.other W17 (Or.inr (sn1 hw))
  have f21 := f14.other W17 (Ne.symm Gh)
  have f22 := f15.other W17 (Ne.symm Ha)
  have f23 := own_J.wr f16 W17
  have NF17 := Fr.snoc X17 NF10 Gb
  have SZ17 : n0 ≤ h17.size := (Nat.le_trans SZ10 (Keep.of_wr W17).1)
  have KP17 : Keep h0 h17 [a0] := KP10.wr W17 (Or.inl (List.mem_of_getElem? (i := 0) rfl))
  refine op T17 (mkF m 57 #[rv a0, rv a1, iv 0, iv 1, .val .null, rv b3_rb] []) (fun _ k => st' _ k) ?_
  exact own_retV X17 hx Bd.notSynchronized Bd.returns (hb hby d2_57) (by rw [e17]; exact ⟨b3_rb, NF17, KP17, Hm, f19, f18, f20, f22, f23⟩) (by decide) (by decide)
theorem ef_i4U1 (m : MethodId) (a0 a1 : Addr) : entryFrame m #[(.ref a0), (.ref a1), (.int 0), (.int 1), .null] 6 = mkF m 0 #[rv a0, rv a1, iv 0, iv 1, .val .null, uu] [] := by first | (simp [entryFrame, mkF, argsToLocals, Value.category]; done) | rfl
set_option maxRecDepth 65536 in
set_option maxHeartbeats 40000000 in
theorem rmi4U1 (l : Launch) (Z : State) (aw : Array Value) (hw : HW aw Z) (ws : List Jvm.Cond) (c0 : Int32) (a0 a1 : Addr) (h0 : Heap) (n0 : Nat) (SZ0 : n0 ≤ h0.size) (Ga : Exa Z h0 a0 cS) (Gf : Fld Z h0 a0 cS "value" "[B" .null) (Gc : Fld Z h0 a0 cS "coder" "B" (.int 0)) (Ge : own_Pv Z h0 a1 (1 : Int32) [c0] .char) (J0 : own_J Z h0) (Gh : a0 ≠ a1) (HU : ((255 : Int32) < c0)) (HC : own_ch c0) (Gb : n0 ≤ a0) :
    MetFree l y26 (head1 (Jvm.Cond.code y26 Gk 6 none :: ws) Qi4U1) (fun a U => a = #[(.ref a0), (.ref a1), (.int 0), (.int 1), .null] ∧ Z.Warmed39 U.vm ∧ U.heap = h0) (fun _ _ _ _ _ => True) (fun _ U o U' => ∃ v L, o = .returned v ∧ own_Q (Ri4U1 (fi4U1_0 c0)) (Ki4U1 Z c0 a0 a1 h0 n0 (fi4U1_0 c0)) v U'.heap L ∧ FrameEnd U o U' L Qi4U1.cells Qi4U1.slots) := by
  refine MetFree.of_bodySF (plainFor_of_name own_pn3) hisR ?_
  intro p e s m args below meth c s₁ Bd hml0 hP hK
  obtain ⟨rfl, hZ, hh⟩ := hP
  have hml : c.maxLocals = 6 := hml0
  have e0 : s₁.heap = h0 := by rw [← hh, Bd.state]; rfl
  exact own_pre (fun t k => castTop (ef_i4U1 m a0 a1) k) (gi4U1_0 hw c0 a0 a1 Gh HU HC Bd hml hZ Gb s₁ (Stand.of_body Bd) e0 SZ0 (Fr.nil n0) (Keep.refl _ _) Ga Gf Gc Ge J0)
abbrev Qi1U1 : Room := { frames := 5, cells := 2, slots := 3, locals := 114 }
/-! body 1, i1U1 -/
def Ri1U1 (t : Unit) : Option Value := none
def Ki1U1 (Z : State) (c0 : Int32) (a0 a1 : Addr) (h0 : Heap) (n0 : Nat) (t : Unit) (h : Heap) (L : List Loc) : Prop := ∃ xb : Addr, Fr n0 L ∧ Keep h0 h [a0] ∧ h0.size ≤ xb ∧ Exa Z h a0 cS ∧ Fld Z h a0 cS "value" "[B" (.ref xb) ∧ Fld Z h a0 cS "coder" "B" (.int 1) ∧ own_Pv Z h xb (2 : Int32) [(own_lo c0), (own_hi c0)] .byte ∧ own_J Z h
def fi1U1_0 (c0 : Int32) : Unit := ()
set_option maxRecDepth 65536 in
set_option maxHeartbeats 40000000 in
theorem gi1U1_0 (hw : HW aw Z) {h0 : Heap} {n0 : Nat} (c0 : Int32) (a0 a1 : Addr) (Gh : a0 ≠ a1) (HU : ((255 : Int32) < c0)) (HC : own_ch c0)
    (Bd : BodyLoose p l y27 (head1 (Jvm.Cond.code y27 Gq 2 none :: ws) Qi1U1) Gq 2 none e s m #[(.ref a0), (.ref a1)] below meth c s₁) (hml : c.maxLocals = 2) (hZ : Z.Warmed39 s.vm) (Gb : n0 ≤ a0) (T0 : State) {locs : List Loc} (X0 : Stand p l e Qi1U1 s m #[(.ref a0), (.ref a1)] below meth c T0 locs 0 0) (e0 : T0.heap = h0) (SZ0 : n0 ≤ h0.size) (NF0 : Fr n0 locs) (KP0 : Keep h0 h0 [a0]) (Ga : Exa Z h0 a0 cS) (Gf : Fld Z h0 a0 cS "value" "[B" .null) (Gc : Fld Z h0 a0 cS "coder" "B" (.int 0)) (Ge : own_Pv Z h0 a1 (1 : Int32) [c0] .char) (J0 : own_J Z h0) :
    own_Go p e below s Qi1U1.cells Qi1U1.slots (Ri1U1 (fi1U1_0 c0)) (Ki1U1 Z c0 a0 a1 h0 n0 (fi1U1_0 c0)) (T0.setTop (mkF m 0 #[rv a0, rv a1] [])) := by
  have hx := Bd.exec
  have hby := Bd.bytes
  have hown : s.vm.findClass cS = some m.cls := findClass_of_methodNamed Bd.named
  have hnm := (name_of_methodNamed Bd.named Bd.method).1
  unfold fi1U1_0
  refine op T0 (mkF m 4 #[rv a0, rv a1] [(.ref a1), (.int 0), (.ref a1), (.ref a0)]) (fun _ k => XS.aloadN X0.here hx rfl (hb hby d1_0) rfl rfl (XS.aloadN X0.here hx rfl (hb hby d1_1) rfl rfl (XS.iconst X0.here hx rfl (hb hby d1_2) (XS.aloadN X0.here hx rfl (hb hby d1_3) rfl rfl k)))) ?_
  obtain ⟨k1, cl1, Ar1, q1, S1, N1, H1, G1⟩ := id Ge
  refine op T0 (mkF m 5 #[rv a0, rv a1] [(.int 1), (.int 0), (.ref a1), (.ref a0)]) (fun t k => X0.arraylength hx (by rw [e0]; exact Ar1.1) (State.isArrayOf_alike hZ.alike Ar1.2.1) (g := (mkF m 4 #[rv a0, rv a1] [(.ref a1), (.int 0), (.ref a1), (.ref a0)])) rfl rfl (hb hby d1_4) t (by rw [len_of S1 N1]; exact k)) ?_
  refine op T0 (mkF m 6 #[rv a0, rv a1] [.null, (.int 1), (.int 0), (.ref a1), (.ref a0)]) (fun _ k => XS.aconstNull X0.here hx rfl (hb hby d1_5) k) ?_
  obtain ⟨_, _, ⟨T2, L2, k2, n2⟩, -, X2', ⟨Lc2, hQ2, l2, y2, z2⟩, st'⟩ := X0.specialBack hx (y := y26) rfl hown (mvT hZ (ow hw 8 rfl)) (mvT hZ (ow hw 9 rfl)) (mvT hZ (ow hw 11 rfl)) (by decide) (backOf (W := 0) (rmi4U1 l Z aw hw [] c0 a0 a1 h0 n0 SZ0 Ga Gf Gc Ge J0 Gh HU HC Gb) hZ (ow hw 11 rfl) (ow hw 4 rfl) (by decide) (by decide)) (g := (mkF m 6 #[rv a0, rv a1] [.null, (.int 1), (.int 0), (.ref a1), (.ref a0)])) rfl (by rw [hml]; rfl) (Steps.refl _) (a := a0) (argsL := [(.ref a1), (.int 0), (.int 1), .null]) (rest := []) (lenOf own_pd17 rfl) rfl (by show 2 * 0 + _ ≤ _; exact Nat.le_of_eq rfl) (hb hby d1_6) (fun _ _ => ⟨rfl, e0, (by decide : 0 + 2 ≤ _), (by decide : 0 + 3 ≤ _)⟩)
  dsimp only [Pt.U, Pt.locs, Pt.cells, Pt.slots] at X2' l2 y2 z2 st' hQ2
  subst l2 y2 z2
  obtain ⟨rfl, b2_xb, NFq2, KPq2, sz2_xb, p2_0, p2_1, p2_2, p2_3, p2_4⟩ := hQ2
  have X2 : Stand p l e Qi1U1 s m #[(.ref a0), (.ref a1)] below meth c T2 _ 2 3 := X2'
  have NF2 := Fr.app NF0 NFq2
  have SZ2 : n0 ≤ T2.heap.size := Nat.le_trans SZ0 KPq2.1
  have KP2 : Keep h0 T2.heap [a0] := KP0.trans KPq2 (allS (Or.inl (List.mem_of_getElem? (i := 0) rfl)) all0)
  have Hz : n0 ≤ b2_xb := Nat.le_trans SZ0 sz2_xb
  have Hn : h0.size ≤ b2_xb := Nat.le_trans KP0.1 sz2_xb
  have J1 : a0 ≠ b2_xb := Nat.ne_of_lt (Nat.lt_of_lt_of_le Ga.lt sz2_xb)
  have J2 : a1 ≠ b2_xb := Nat.ne_of_lt (Nat.lt_of_lt_of_le Ge.lt sz2_xb)
  have f3 := Ga.keep KPq2
  have f4 := Ge.keep KPq2 (ninS (Ne.symm Gh) nin0)
  refine op T2 (mkF m 9 #[rv a0, rv a1] []) (fun _ k => st'.trans k) ?_
  exact own_retV X2 hx Bd.notSynchronized Bd.returns (hb hby d1_9) ⟨b2_xb, NF2, KP2, Hn, p2_0, p2_1, p2_2, p2_3, p2_4⟩ (by decide) (by decide)
theorem ef_i1U1 (m : MethodId) (a0 a1 : Addr) : entryFrame m #[(.ref a0), (.ref a1)] 2 = mkF m 0 #[rv a0, rv a1] [] := by first | (simp [entryFrame, mkF, argsToLocals, Value.category]; done) | rfl
set_option maxRecDepth 65536 in
set_option maxHeartbeats 40000000 in
theorem rmi1U1 (l : Launch) (Z : State) (aw : Array Value) (hw : HW aw Z) (ws : List Jvm.Cond) (c0 : Int32) (a0 a1 : Addr) (h0 : Heap) (n0 : Nat) (SZ0 : n0 ≤ h0.size) (Ga : Exa Z h0 a0 cS) (Gf : Fld Z h0 a0 cS "value" "[B" .null) (Gc : Fld Z h0 a0 cS "coder" "B" (.int 0)) (Ge : own_Pv Z h0 a1 (1 : Int32) [c0] .char) (J0 : own_J Z h0) (Gh : a0 ≠ a1) (HU : ((255 : Int32) < c0)) (HC : own_ch c0) (Gb : n0 ≤ a0) :
    MetFree l y27 (head1 (Jvm.Cond.code y27 Gq 2 none :: ws) Qi1U1) (fun a U => a = #[(.ref a0), (.ref a1)] ∧ Z.Warmed39 U.vm ∧ U.heap = h0) (fun _ _ _ _ _ => True) (fun _ U o U' => ∃ v L, o = .returned v ∧ own_Q (Ri1U1 (fi1U1_0 c0)) (Ki1U1 Z c0 a0 a1 h0 n0 (fi1U1_0 c0)) v U'.heap L ∧ FrameEnd U o U' L Qi1U1.cells Qi1U1.slots) := by
  refine MetFree.of_bodySF (plainFor_of_name own_pn3) hisR ?_
  intro p e s m args below meth c s₁ Bd hml0 hP hK
  obtain ⟨rfl, hZ, hh⟩ := hP
  have hml : c.maxLocals = 2 := hml0
  have e0 : s₁.heap = h0 := by rw [← hh, Bd.state]; rfl
  exact own_pre (fun t k => castTop (ef_i1U1 m a0 a1) k) (gi1U1_0 hw c0 a0 a1 Gh HU HC Bd hml hZ Gb s₁ (Stand.of_body Bd) e0 SZ0 (Fr.nil n0) (Keep.refl _ _) Ga Gf Gc Ge J0)
def own_S1 (Z : State) (h : Heap) (n0 : Nat) (a : Addr) (c0 : Int32) : Prop := (own_ch c0) ∧ ∃ b, Exa Z h a cS ∧ Fld Z h a cS "value" "[B" (.ref b) ∧ ((Fld Z h a cS "coder" "B" (.int 0) ∧ (¬ (255 : Int32) < c0) ∧ own_Pv Z h b (1 : Int32) [(own_by c0)] .byte) ∨ (Fld Z h a cS "coder" "B" (.int 1) ∧ own_Pv Z h b (2 : Int32) [(own_lo c0), (own_hi c0)] .byte))
theorem own_S1.exa {Z : State} {h : Heap} {n0 : Nat} {a : Addr} {c0 : Int32} (F : own_S1 Z h n0 a c0) : Exa Z h a cS := by obtain ⟨-, b, E, -⟩ := F; exact E
theorem own_S1.ext {Z : State} {h h' : Heap} {n0 : Nat} {a : Addr} {c0 : Int32} (F : own_S1 Z h n0 a c0) (E : Ext h h') : own_S1 Z h' n0 a c0 := by obtain ⟨q, b, x, y, ⟨u, v, w⟩ | ⟨u, w⟩⟩ := F; exact ⟨q, b, x.ext E, y.ext E, Or.inl ⟨u.ext E, v, w.ext E⟩⟩; exact ⟨q, b, x.ext E, y.ext E, Or.inr ⟨u.ext E, w.ext E⟩⟩
set_option maxRecDepth 65536 in
set_option maxHeartbeats 40000000 in
theorem rmsn1 (l : Launch) (Z : State) (aw : Array Value) (hw : HW aw Z) (ws : List Jvm.Cond) (c0 : Int32) (a0 a1 : Addr) (h0 : Heap) (n0 : Nat) (SZ0 : n0 ≤ h0.size) (Ga : Exa Z h0 a0 cS) (Gf : Fld Z h0 a0 cS "value" "[B" .null) (Gc : Fld Z h0 a0 cS "coder" "B" (.int 0)) (Ge : own_Pv Z h0 a1 (1 : Int32) [c0] .char) (J0 : own_J Z h0) (Gh : a0 ≠ a1) (HC : own_ch c0) (Gb : n0 ≤ a0) :
    MetFree l y27 (head1 (Jvm.Cond.code y27 Gq 2 none :: ws) Qi1U1) (fun a U => a = #[(.ref a0), (.ref a1)] ∧ Z.Warmed39 U.vm ∧ U.heap = h0) (fun _ _ _ _ _ => True) (fun _ U o U' => ∃ v L, o = .returned v ∧ own_Q (Ri1U1 ()) (fun h L => Fr n0 L ∧ Keep h0 h [a0] ∧ own_S1 Z h n0 a0 c0 ∧ own_J Z h) v U'.heap L ∧ FrameEnd U o U' L Qi1U1.cells Qi1U1.slots) := by
  by_cases HL : ¬ (255 : Int32) < c0
  · refine own_metR (rmi1L1 l Z aw hw ws c0 a0 a1 h0 n0 SZ0 Ga Gf Gc Ge J0 Gh HL Gb) rfl ?_
    intro h L hk
    obtain ⟨xb, NF, KP, sz, e, f, g, q, j⟩ := hk
    exact ⟨NF, KP, ⟨HC, xb, e, f, Or.inl ⟨g, HL, q⟩⟩, j⟩
  · have HU : ((255 : Int32) < c0) := by
      exact Decidable.byContradiction HL
    refine own_metR (rmi1U1 l Z aw hw ws c0 a0 a1 h0 n0 SZ0 Ga Gf Gc Ge J0 Gh HU HC Gb) rfl ?_
    intro h L hk
    obtain ⟨xb, NF, KP, sz, e, f, g, q, j⟩ := hk
    exact ⟨NF, KP, ⟨HC, xb, e, f, Or.inr ⟨g, q⟩⟩, j⟩
set_option maxRecDepth 65536 in
set_option maxHeartbeats 40000000 in
theorem rmiew1 (l : Launch) (Z : State) (aw : Array Value) (hw : HW aw Z) (ws : List Jvm.Cond) (c0 : Int32) (a0 : Addr) (h0 : Heap) (n0 : Nat) (SZ0 : n0 ≤ h0.size) (W_a0 : own_S1 Z h0 n0 a0 c0) :
    MetFree l y10 (head1 (Jvm.Cond.code y10 Hc 1 (some .boolean) :: ws) Qie) (fun a U => a = #[(.ref a0)] ∧ Z.Warmed39 U.vm ∧ U.heap = h0) (fun _ _ _ _ _ => True) (fun _ U o U' => ∃ v L, o = .returned v ∧ own_Q (some (.int 0)) (own_K0 h0) v U'.heap L ∧ FrameEnd U o U' L Qie.cells Qie.slots) := by
  obtain ⟨hc, b, E, Fv, ⟨Fc, hl, P⟩ | ⟨Fc, P⟩⟩ := W_a0
  · exact own_metR (rmie l Z aw hw ws 1 a0 b h0 n0 SZ0 Fv (own_Pv.be P (fun _ k => nomatch k))) (congrArg (fun x => some (Value.int x)) (by decide : fie_0 1 = 0)) (fun _ _ q => q)
  · exact own_metR (rmie l Z aw hw ws 2 a0 b h0 n0 SZ0 Fv (own_Pv.be P (fun _ k => nomatch k))) (congrArg (fun x => some (Value.int x)) (by decide : fie_0 2 = 0)) (fun _ _ q => q)
set_option maxRecDepth 65536 in
set_option maxHeartbeats 40000000 in
theorem rmlenw1 (l : Launch) (Z : State) (aw : Array Value) (hw : HW aw Z) (ws : List Jvm.Cond) (c0 : Int32) (a0 : Addr) (h0 : Heap) (n0 : Nat) (SZ0 : n0 ≤ h0.size) (W_a0 : own_S1 Z h0 n0 a0 c0) (J0 : own_J Z h0) :
    MetFree l y9 (head1 (Jvm.Cond.code y9 Hi 1 (some .int) :: ws) Qlen) (fun a U => a = #[(.ref a0)] ∧ Z.Warmed39 U.vm ∧ U.heap = h0) (fun _ _ _ _ _ => True) (fun _ U o U' => ∃ v L, o = .returned v ∧ own_Q (some (.int 1)) (own_K0 h0) v U'.heap L ∧ FrameEnd U o U' L Qlen.cells Qlen.slots) := by
  obtain ⟨hc, b, E, Fv, ⟨Fc, hl, P⟩ | ⟨Fc, P⟩⟩ := W_a0
  · exact own_metR (rmlen l Z aw hw ws 1 0 a0 b h0 n0 SZ0 E Fv Fc (own_Pv.be P (fun _ k => nomatch k)) J0) (congrArg (fun x => some (Value.int x)) (by decide : flen_0 1 0 = 1)) (fun _ _ q => q)
  · exact own_metR (rmlen l Z aw hw ws 2 1 a0 b h0 n0 SZ0 E Fv Fc (own_Pv.be P (fun _ k => nomatch k)) J0) (congrArg (fun x => some (Value.int x)) (by decide : flen_0 2 1 = 1)) (fun _ _ q => q)
set_option maxRecDepth 65536 in
set_option maxHeartbeats 40000000 in
theorem rmchw10 (l : Launch) (Z : State) (aw : Array Value) (hw : HW aw Z) (ws : List Jvm.Cond) (c0 : Int32) (a0 : Addr) (h0 : Heap) (n0 : Nat) (SZ0 : n0 ≤ h0.size) (W_a0 : own_S1 Z h0 n0 a0 c0) (J0 : own_J Z h0) :
    MetFree l y11 (head1 (Jvm.Cond.code y11 Gy 2 (some .char) :: ws) Qch0) (fun a U => a = #[(.ref a0), (.int 0)] ∧ Z.Warmed39 U.vm ∧ U.heap = h0) (fun _ _ _ _ _ => True) (fun _ U o U' => ∃ v L, o = .returned v ∧ own_Q (some (.int c0)) (own_K0 h0) v U'.heap L ∧ FrameEnd U o U' L Qch0.cells Qch0.slots) := by
  obtain ⟨hc, b, E, Fv, ⟨Fc, hl, P⟩ | ⟨Fc, P⟩⟩ := W_a0
  · exact own_metR (rmch0 l Z aw hw ws 0 1 (own_by c0) a0 b h0 n0 SZ0 E Fv Fc (own_Pv.be P (by intro x hx; cases List.mem_singleton.mp hx; rfl)) J0 (by decide) (by decide)) (congrArg (fun x => some (Value.int x)) (own_ch0E _ _ hc hl)) (fun _ _ q => q)
  · exact own_metR (rmch1 l Z aw hw ws 0 2 (own_lo c0) (own_hi c0) a0 b h0 n0 SZ0 E Fv Fc (own_Pv.be P (by intro x hx; simp only [List.mem_cons, List.not_mem_nil, or_false] at hx; rcases hx with rfl | rfl <;> rfl)) J0 (by decide) (by decide) (by decide) (by decide) (by decide) (by decide)) (congrArg (fun x => some (Value.int x)) (own_ch1E _ _ hc)) (fun _ _ q => q)
set_option maxRecDepth 65536 in
set_option maxHeartbeats 40000000 in
theorem rmcpU2 (l : Launch) (Z : State) (aw : Array Value) (hw : HW aw Z) (ws : List Jvm.Cond) (c0 c1 : Int32) (a0 : Addr) (h0 : Heap) (n0 : Nat) (SZ0 : n0 ≤ h0.size) (G0 : own_Pv Z h0 a0 (2 : Int32) [c0, c1] .char) (J0 : own_J Z h0) (HU : ((255 : Int32) < c0) ∨ (¬ (255 : Int32) < c0 ∧ (255 : Int32) < c1)) (HC : own_ch c0 ∧ own_ch c1) :
    MetFree l y25 (head1 (Jvm.Cond.code y25 Gi 6 (some (.array .byte)) :: ws) QcpU20) (fun a U => a = #[(.ref a0), (.int 0), (.int 2)] ∧ Z.Warmed39 U.vm ∧ U.heap = h0) (fun _ _ _ _ _ => True) (fun _ U o U' => ∃ v L, o = .returned v ∧ own_QE (KcpU20 Z c0 c1 a0 h0 n0 (fcpU20_0 c0 c1)) v U'.heap L ∧ FrameEnd U o U' L QcpU20.cells QcpU20.slots) := by
  rcases HU with k0 | ⟨k0, k1⟩
  · exact own_metE (rmcpU20 l Z aw hw ws c0 c1 a0 h0 n0 SZ0 G0 J0 k0 HC.1) (fun _ _ _ q => q)
  · exact own_metE (rmcpU21 l Z aw hw ws c0 c1 a0 h0 n0 SZ0 G0 J0 k0 k1 HC.2) (fun _ _ _ q => q)
abbrev Qi4L2 : Room := { frames := 4, cells := 2, slots := 6, locals := 89 }
/-! body 2, i4L2 -/
def Ri4L2 (t : Unit) : Option Value := none
def Ki4L2 (Z : State) (c0 c1 : Int32) (a0 a1 : Addr) (h0 : Heap) (n0 : Nat) (t : Unit) (h : Heap) (L : List Loc) : Prop := ∃ xb : Addr, Fr n0 L ∧ Keep h0 h [a0] ∧ h0.size ≤ xb ∧ Exa Z h a0 cS ∧ Fld Z h a0 cS "value" "[B" (.ref xb) ∧ Fld Z h a0 cS "coder" "B" (.int 0) ∧ own_Pv Z h xb (2 : Int32) [(own_by c0), (own_by c1)] .byte ∧ own_J Z h
def fi4L2_0 (c0 c1 : Int32) : Unit := ()
set_option maxRecDepth 65536 in
set_option maxHeartbeats 40000000 in
theorem gi4L2_0 (hw : HW aw Z) {h0 : Heap} {n0 : Nat} (c0 c1 : Int32) (a0 a1 : Addr) (Gh : a0 ≠ a1) (hL0 : ¬ (255 : Int32) < c0) (hL1 : ¬ (255 : Int32) < c1)
    (Bd : BodyLoose p l y26 (head1 (Jvm.Cond.code y26 Gk 6 none :: ws) Qi4L2) Gk 6 none e s m #[(.ref a0), (.ref a1), (.int 0), (.int 2), .null] below meth c s₁) (hml : c.maxLocals = 6) (hZ : Z.Warmed39 s.vm) (Gb : n0 ≤ a0) (T0 : State) {locs : List Loc} (X0 : Stand p l e Qi4L2 s m #[(.ref a0), (.ref a1), (.int 0), (.int 2), .null] below meth c T0 locs 0 0) (e0 : T0.heap = h0) (SZ0 : n0 ≤ h0.size) (NF0 : Fr n0 locs) (KP0 : Keep h0 h0 [a0]) (Ga : Exa Z h0 a0 cS) (Gf : Fld Z h0 a0 cS "value" "[B" .null) (Gc : Fld Z h0 a0 cS "coder" "B" (.int 0)) (Ge : own_Pv Z h0 a1 (2 : Int32) [c0, c1] .char) (J0 : own_J Z h0) :
    own_Go p e below s Qi4L2.cells Qi4L2.slots (Ri4L2 (fi4L2_0 c0 c1)) (Ki4L2 Z c0 c1 a0 a1 h0 n0 (fi4L2_0 c0 c1)) (T0.setTop (mkF m 0 #[rv a0, rv a1, iv 0, iv 2, .val .null, uu] [])) := by
  have hx := Bd.exec
  have hby := Bd.bytes
  have hown : s.vm.findClass cS = some m.cls := findClass_of_methodNamed Bd.named
  have hnm := (name_of_methodNamed Bd.named Bd.method).1
  unfold fi4L2_0
  refine op T0 (mkF m 1 #[rv a0, rv a1, iv 0, iv 2, .val .null, uu] [(.ref a0)]) (fun _ k => XS.aloadN X0.here hx rfl (hb hby d2_0) rfl rfl k) ?_
  obtain ⟨T1, X1, e1, st'⟩ := initO X0 hx hZ hown (ow hw 12 rfl) (ow hw 13 rfl) (ow hw 14 rfl) e0 (g := (mkF m 1 #[rv a0, rv a1, iv 0, iv 2, .val .null, uu] [(.ref a0)])) rfl (by rw [hml]; rfl) rfl (hb hby d2_1) (by decide) (W := 0) (by show 2 * 0 + _ ≤ _; exact Nat.le_of_eq rfl) (by decide)
  refine op T1 (mkF m 5 #[rv a0, rv a1, iv 0, iv 2, .val .null, uu] [(.int 2)]) (fun _ k => st' _ (XS.iloadN X1.here hx rfl (hb hby d2_4) rfl k)) ?_
  have hc5 : ¬ ((2 : Int32) = (0 : Int32)) := (by decide)
  refine op T1 (mkF m 27 #[rv a0, rv a1, iv 0, iv 2, .val .null, uu] []) (fun _ k => XS.ifYes X1.here hx rfl (pc0 := 5) (pc' := 27) rfl (hb hby d2_5) rfl ((if0 _ _).trans (feq hc5).2) (by decide) (by decide) k) ?_
  obtain ⟨cs, sf, js⟩ := id J0
  obtain ⟨T2, X2, e2, st'⟩ := getS2 X1 hx hZ hown (host := "") (Or.inl (ow hw 32 rfl)) Via.refl e1 js.1 (g := (mkF m 27 #[rv a0, rv a1, iv 0, iv 2, .val .null, uu] [])) rfl (hb hby d2_27)
  refine op T2 (mkF m 30 #[rv a0, rv a1, iv 0, iv 2, .val .null, uu] [(.int cs)]) (fun _ k => st' _ k) ?_
  have hc30 : ¬ (cs = (0 : Int32)) := js.2.2.2.2.2.1
  refine op T2 (mkF m 36 #[rv a0, rv a1, iv 0, iv 2, .val .null, uu] [(.int 2), (.int 0), (.ref a1)]) (fun _ k => XS.ifNo X2.here hx rfl (hb hby d2_30) rfl ((if0 _ _).trans (feq hc30).1) (XS.aloadN X2.here hx rfl (hb hby d2_33) rfl rfl (XS.iloadN X2.here hx rfl (hb hby d2_34) rfl (XS.iloadN X2.here hx rfl (hb hby d2_35) rfl k)))) ?_
  obtain ⟨_, _, ⟨T3, L3, k3, n3⟩, -, X3', ⟨Lc3, hQ3, l3, y3, z3⟩, st'⟩ := Jvm.LawKit.callS X2 hx (y := y25) hown (mvT hZ (ow hw 33 rfl)) (mvT hZ (ow hw 34 rfl)) (mvT hZ (ow hw 35 rfl)) (mvT hZ (ow hw 36 rfl)) (by decide) (backOf (W := 0) (rmcpL2 l Z aw hw [] c0 c1 a1 h0 n0 SZ0 Ge J0 hL0 hL1) hZ (ow hw 36 rfl) (ow hw 35 rfl) (by decide) (by decide)) (g := (mkF m 36 #[rv a0, rv a1, iv 0, iv 2, .val .null, uu] [(.int 2), (.int 0), (.ref a1)])) rfl (by rw [hml]; rfl) (argsL := [(.ref a1), (.int 0), (.int 2)]) (rest := []) (lenOf own_pd15 rfl) rfl (by show 2 * 0 + _ ≤ _; exact Nat.le_of_eq rfl) (hb hby d2_36) (fun _ _ => ⟨rfl, e2, (by decide : 0 + 2 ≤ _), (by decide : 0 + 6 ≤ _)⟩)
  dsimp only [Pt.U, Pt.locs, Pt.cells, Pt.slots] at X3' l3 y3 z3 st' hQ3
  subst l3 y3 z3
  obtain ⟨b3_rb, rfl, NFq3, KPq3, sz3_rb, p3_0, p3_1⟩ := hQ3
  have X3 : Stand p l e Qi4L2 s m #[(.ref a0), (.ref a1), (.int 0), (.int 2), .null] below meth c T3 _ 2 6 := X3'
  have NF3 := Fr.app NF0 NFq3
  have SZ3 : n0 ≤ T3.heap.size := Nat.le_trans SZ0 KPq3.1
  have KP3 : Keep h0 T3.heap [a0] := KP0.trans KPq3 all0
  have Hx : n0 ≤ b3_rb := Nat.le_trans SZ0 sz3_rb
  have Hm : h0.size ≤ b3_rb := Nat.le_trans KP0.1 sz3_rb
  have Ha : a0 ≠ b3_rb := Nat.ne_of_lt (Nat.lt_of_lt_of_le Ga.lt sz3_rb)
  have Hy : a1 ≠ b3_rb := Nat.ne_of_lt (Nat.lt_of_lt_of_le Ge.lt sz3_rb)
  have f4 := Ga.keep KPq3
  have f5 := Gf.keep KPq3 nin0
  have f6 := Gc.keep KPq3 nin0
  have f7 := Ge.keep KPq3 nin0
  have f8 := own_J.keep J0 KPq3
  refine op T3 (mkF m 45 #[rv a0, rv a1, iv 0, iv 2, .val .null, rv b3_rb] [(.int 2), (.ref b3_rb), (.ref a0)]) (fun _ k => st' _ (XS.astore X3.here hx rfl (hb hby d2_39) rfl rfl (l' := #[rv a0, rv a1, iv 0, iv 2, .val .null, rv b3_rb]) rfl (XS.aloadN X3.here hx rfl (hb hby d2_41) rfl rfl (XS.aload X3.here hx rfl (hb hby d2_42) rfl rfl (XS.iloadN X3.here hx rfl (hb hby d2_44) rfl k))))) ?_
  obtain ⟨_, _, ⟨T9, L9, k9, n9⟩, -, X9', ⟨Lc9, hQ9, l9, y9, z9⟩, st'⟩ := Jvm.LawKit.callS X3 hx (y := y19) hown (mvT hZ (ow hw 40 rfl)) (mvT hZ (ow hw 41 rfl)) (mvT hZ (ow hw 35 rfl)) (mvT hZ (ow hw 42 rfl)) (by decide) (backOf (W := 1) (rmcfl l Z aw hw [] (2 : Int32) (2 : Int32) b3_rb T3.heap n0 SZ3 (own_Pv.be p3_0 (fun _ k => nomatch k))) hZ (ow hw 42 rfl) (ow hw 35 rfl) (by decide) (by decide)) (g := (mkF m 45 #[rv a0, rv a1, iv 0, iv 2, .val .null, rv b3_rb] [(.int 2), (.ref b3_rb), (.ref a0)])) rfl (by rw [hml]; rfl) (argsL := [(.ref b3_rb), (.int 2)]) (rest := [(.ref a0)]) (lenOf own_pd16 rfl) rfl (by show 2 * 0 + _ ≤ _; exact Nat.le_of_eq rfl) (hb hby d2_45) (fun _ _ => ⟨rfl, (rfl : T3.heap = T3.heap), (by decide : 2 + 0 ≤ _), (by decide : 6 + 0 ≤ _)⟩)
  dsimp only [Pt.U, Pt.locs, Pt.cells, Pt.slots] at X9' l9 y9 z9 st' hQ9
  subst l9 y9 z9
  obtain ⟨rfl, rfl, e9⟩ := hQ9
  have X9 : Stand p l e Qi4L2 s m #[(.ref a0), (.ref a1), (.int 0), (.int 2), .null] below meth c T9 _ 2 6 := own_locs X9'
  refine op T9 (mkF m 48 #[rv a0, rv a1, iv 0, iv 2, .val .null, rv b3_rb] [(.int 0), (.ref a0)]) (fun _ k => st' _ k) ?_
  obtain ⟨T10, h10, X10, e10, W10, st'⟩ := putFN X9 hx hZ hown (ow hw 22 rfl) Via.refl e9 f6 f4 (Or.inr ⟨(ow hw 18 rfl), rfl, hnm⟩) (ow hw 3 rfl) (ty := .byte) (v' := (.int 0)) (by decide) rfl (by decide) (g := (mkF m 48 #[rv a0, rv a1, iv 0, iv 2, .val .null, rv b3_rb] [(.int 0), (.ref a0)])) rfl rfl (hb hby d2_48)
  have f11 := f6.same W10
  have f12 := f4.wr W10
  have f13 := f5.other W10 (Or.inr (sn0 hw))
  have f14 := f7.other W10 (Ne.symm Gh)
  have f15 := p3_0.other W10 (Ne.symm Ha)
  have f16 := own_J.wr p3_1 W10
  have NF10 := Fr.snoc X10 NF3 Gb
  have SZ10 : n0 ≤ h10.size := (Nat.le_trans SZ3 (Keep.of_wr W10).1)
  have KP10 : Keep h0 h10 [a0] := KP3.wr W10 (Or.inl (List.mem_of_getElem? (i := 0) rfl))
  refine op T10 (mkF m 54 #[rv a0, rv a1, iv 0, iv 2, .val .null, rv b3_rb] [(.ref b3_rb), (.ref a0)]) (fun _ k => st' _ (XS.aloadN X10.here hx rfl (hb hby d2_51) rfl rfl (XS.aload X10.here hx rfl (hb hby d2_52) rfl rfl k))) ?_
  obtain ⟨T17, h17, X17, e17, W17, st'⟩ := putF X10 hx hZ hown (host := "") (Or.inl (ow hw 21 rfl)) Via.refl e10 f13 f12 (Or.inr ⟨(ow hw 17 rfl), rfl, hnm⟩) (ow hw 3 rfl) (ty := (.array .byte)) (by decide) rfl rfl (g := (mkF m 54 #[rv a0, rv a1, iv 0, iv 2, .val .null, rv b3_rb] [(.ref b3_rb), (.ref a0)])) rfl rfl (hb hby d2_54)
  have f18 := f13.same W17
  have f19 := f12.wr W17
  have f20 := f11.other W17 (Or.inr (sn1 hw))
  have f21 := f14.other W17 (Ne.symm Gh)
  have f22 := f15.other W17 (Ne.symm Ha)
  have f23 := own_J.wr f16 W17
  have NF17 := Fr.snoc X17 NF10 Gb
  have SZ17 : n0 ≤ h17.size := (Nat.le_trans SZ10 (Keep.of_wr W17).1)
  have KP17 : Keep h0 h17 [a0] := KP10.wr W17 (Or.inl (List.mem_of_getElem? (i := 0) rfl))
  refine op T17 (mkF m 57 #[rv a0, rv a1, iv 0, iv 2, .val .null, rv b3_rb] []) (fun _ k => st' _ k) ?_
  exact own_retV X17 hx Bd.notSynchronized Bd.returns (hb hby d2_57) (by rw [e17]; exact ⟨b3_rb, NF17, KP17, Hm, f19, f18, f20, f22, f23⟩) (by decide) (by decide)
theorem ef_i4L2 (m : MethodId) (a0 a1 : Addr) : entryFrame m #[(.ref a0), (.ref a1), (.int 0), (.int 2), .null] 6 = mkF m 0 #[rv a0, rv a1, iv 0, iv 2, .val .null, uu] [] := by first | (simp [entryFrame, mkF, argsToLocals, Value.category]; done) | rfl
set_option maxRecDepth 65536 in
set_option maxHeartbeats 40000000 in
theorem rmi4L2 (l : Launch) (Z : State) (aw : Array Value) (hw : HW aw Z) (ws : List Jvm.Cond) (c0 c1 : Int32) (a0 a1 : Addr) (h0 : Heap) (n0 : Nat) (SZ0 : n0 ≤ h0.size) (Ga : Exa Z h0 a0 cS) (Gf : Fld Z h0 a0 cS "value" "[B" .null) (Gc : Fld Z h0 a0 cS "coder" "B" (.int 0)) (Ge : own_Pv Z h0 a1 (2 : Int32) [c0, c1] .char) (J0 : own_J Z h0) (Gh : a0 ≠ a1) (hL0 : ¬ (255 : Int32) < c0) (hL1 : ¬ (255 : Int32) < c1) (Gb : n0 ≤ a0) :
    MetFree l y26 (head1 (Jvm.Cond.code y26 Gk 6 none :: ws) Qi4L2) (fun a U => a = #[(.ref a0), (.ref a1), (.int 0), (.int 2), .null] ∧ Z.Warmed39 U.vm ∧ U.heap = h0) (fun _ _ _ _ _ => True) (fun _ U o U' => ∃ v L, o = .returned v ∧ own_Q (Ri4L2 (fi4L2_0 c0 c1)) (Ki4L2 Z c0 c1 a0 a1 h0 n0 (fi4L2_0 c0 c1)) v U'.heap L ∧ FrameEnd U o U' L Qi4L2.cells Qi4L2.slots) := by
  refine MetFree.of_bodySF (plainFor_of_name own_pn3) hisR ?_
  intro p e s m args below meth c s₁ Bd hml0 hP hK
  obtain ⟨rfl, hZ, hh⟩ := hP
  have hml : c.maxLocals = 6 := hml0
  have e0 : s₁.heap = h0 := by rw [← hh, Bd.state]; rfl
  exact own_pre (fun t k => castTop (ef_i4L2 m a0 a1) k) (gi4L2_0 hw c0 c1 a0 a1 Gh hL0 hL1 Bd hml hZ Gb s₁ (Stand.of_body Bd) e0 SZ0 (Fr.nil n0) (Keep.refl _ _) Ga Gf Gc Ge J0)
abbrev Qi1L2 : Room := { frames := 5, cells := 2, slots := 6, locals := 114 }
/-! body 1, i1L2 -/
def Ri1L2 (t : Unit) : Option Value := none
def Ki1L2 (Z : State) (c0 c1 : Int32) (a0 a1 : Addr) (h0 : Heap) (n0 : Nat) (t : Unit) (h : Heap) (L : List Loc) : Prop := ∃ xb : Addr, Fr n0 L ∧ Keep h0 h [a0] ∧ h0.size ≤ xb ∧ Exa Z h a0 cS ∧ Fld Z h a0 cS "value" "[B" (.ref xb) ∧ Fld Z h a0 cS "coder" "B" (.int 0) ∧ own_Pv Z h xb (2 : Int32) [(own_by c0), (own_by c1)] .byte ∧ own_J Z h
def fi1L2_0 (c0 c1 : Int32) : Unit := ()
set_option maxRecDepth 65536 in
set_option maxHeartbeats 40000000 in
theorem gi1L2_0 (hw : HW aw Z) {h0 : Heap} {n0 : Nat} (c0 c1 : Int32) (a0 a1 : Addr) (Gh : a0 ≠ a1) (hL0 : ¬ (255 : Int32) < c0) (hL1 : ¬ (255 : Int32) < c1)
    (Bd : BodyLoose p l y27 (head1 (Jvm.Cond.code y27 Gq 2 none :: ws) Qi1L2) Gq 2 none e s m #[(.ref a0), (.ref a1)] below meth c s₁) (hml : c.maxLocals = 2) (hZ : Z.Warmed39 s.vm) (Gb : n0 ≤ a0) (T0 : State) {locs : List Loc} (X0 : Stand p l e Qi1L2 s m #[(.ref a0), (.ref a1)] below meth c T0 locs 0 0) (e0 : T0.heap = h0) (SZ0 : n0 ≤ h0.size) (NF0 : Fr n0 locs) (KP0 : Keep h0 h0 [a0]) (Ga : Exa Z h0 a0 cS) (Gf : Fld Z h0 a0 cS "value" "[B" .null) (Gc : Fld Z h0 a0 cS "coder" "B" (.int 0)) (Ge : own_Pv Z h0 a1 (2 : Int32) [c0, c1] .char) (J0 : own_J Z h0) :
    own_Go p e below s Qi1L2.cells Qi1L2.slots (Ri1L2 (fi1L2_0 c0 c1)) (Ki1L2 Z c0 c1 a0 a1 h0 n0 (fi1L2_0 c0 c1)) (T0.setTop (mkF m 0 #[rv a0, rv a1] [])) := by
  have hx := Bd.exec
  have hby := Bd.bytes
  have hown : s.vm.findClass cS = some m.cls := findClass_of_methodNamed Bd.named
  have hnm := (name_of_methodNamed Bd.named Bd.method).1
  unfold fi1L2_0
  refine op T0 (mkF m 4 #[rv a0, rv a1] [(.ref a1), (.int 0), (.ref a1), (.ref a0)]) (fun _ k => XS.aloadN X0.here hx rfl (hb hby d1_0) rfl rfl (XS.aloadN X0.here hx rfl (hb hby d1_1) rfl rfl (XS.iconst X0.here hx rfl (hb hby d1_2) (XS.aloadN X0.here hx rfl (hb hby d1_3) rfl rfl k)))) ?_
  obtain ⟨k1, cl1, Ar1, q1, S1, N1, H1, G1⟩ := id Ge
  refine op T0 (mkF m 5 #[rv a0, rv a1] [(.int 2), (.int 0), (.ref a1), (.ref a0)]) (fun t k => X0.arraylength hx (by rw [e0]; exact Ar1.1) (State.isArrayOf_alike hZ.alike Ar1.2.1) (g := (mkF m 4 #[rv a0, rv a1] [(.ref a1), (.int 0), (.ref a1), (.ref a0)])) rfl rfl (hb hby d1_4) t (by rw [len_of S1 N1]; exact k)) ?_
  refine op T0 (mkF m 6 #[rv a0, rv a1] [.null, (.int 2), (.int 0), (.ref a1), (.ref a0)]) (fun _ k => XS.aconstNull X0.here hx rfl (hb hby d1_5) k) ?_
  obtain ⟨_, _, ⟨T2, L2, k2, n2⟩, -, X2', ⟨Lc2, hQ2, l2, y2, z2⟩, st'⟩ := X0.specialBack hx (y := y26) rfl hown (mvT hZ (ow hw 8 rfl)) (mvT hZ (ow hw 9 rfl)) (mvT hZ (ow hw 11 rfl)) (by decide) (backOf (W := 0) (rmi4L2 l Z aw hw [] c0 c1 a0 a1 h0 n0 SZ0 Ga Gf Gc Ge J0 Gh hL0 hL1 Gb) hZ (ow hw 11 rfl) (ow hw 4 rfl) (by decide) (by decide)) (g := (mkF m 6 #[rv a0, rv a1] [.null, (.int 2), (.int 0), (.ref a1), (.ref a0)])) rfl (by rw [hml]; rfl) (Steps.refl _) (a := a0) (argsL := [(.ref a1), (.int 0), (.int 2), .null]) (rest := []) (lenOf own_pd17 rfl) rfl (by show 2 * 0 + _ ≤ _; exact Nat.le_of_eq rfl) (hb hby d1_6) (fun _ _ => ⟨rfl, e0, (by decide : 0 + 2 ≤ _), (by decide : 0 + 6 ≤ _)⟩)
  dsimp only [Pt.U, Pt.locs, Pt.cells, Pt.slots] at X2' l2 y2 z2 st' hQ2
  subst l2 y2 z2
  obtain ⟨rfl, b2_xb, NFq2, KPq2, sz2_xb, p2_0, p2_1, p2_2, p2_3, p2_4⟩ := hQ2
  have X2 : Stand p l e Qi1L2 s m #[(.ref a0), (.ref a1)] below meth c T2 _ 2 6 := X2'
  have NF2 := Fr.app NF0 NFq2
  have SZ2 : n0 ≤ T2.heap.size := Nat.le_trans SZ0 KPq2.1
  have KP2 : Keep h0 T2.heap [a0] := KP0.trans KPq2 (allS (Or.inl (List.mem_of_getElem? (i := 0) rfl)) all0)
  have Hz : n0 ≤ b2_xb := Nat.le_trans SZ0 sz2_xb
  have Hn : h0.size ≤ b2_xb := Nat.le_trans KP0.1 sz2_xb
  have J1 : a0 ≠ b2_xb := Nat.ne_of_lt (Nat.lt_of_lt_of_le Ga.lt sz2_xb)
  have J2 : a1 ≠ b2_xb := Nat.ne_of_lt (Nat.lt_of_lt_of_le Ge.lt sz2_xb)
  have f3 := Ga.keep KPq2
  have f4 := Ge.keep KPq2 (ninS (Ne.symm Gh) nin0)
  refine op T2 (mkF m 9 #[rv a0, rv a1] []) (fun _ k => st'.trans k) ?_
  exact own_retV X2 hx Bd.notSynchronized Bd.returns (hb hby d1_9) ⟨b2_xb, NF2, KP2, Hn, p2_0, p2_1, p2_2, p2_3, p2_4⟩ (by decide) (by decide)
theorem ef_i1L2 (m : MethodId) (a0 a1 : Addr) : entryFrame m #[(.ref a0), (.ref a1)] 2 = mkF m 0 #[rv a0, rv a1] [] := by first | (simp [entryFrame, mkF, argsToLocals, Value.category]; done) | rfl
set_option maxRecDepth 65536 in
set_option maxHeartbeats 40000000 in
theorem rmi1L2 (l : Launch) (Z : State) (aw : Array Value) (hw : HW aw Z) (ws : List Jvm.Cond) (c0 c1 : Int32) (a0 a1 : Addr) (h0 : Heap) (n0 : Nat) (SZ0 : n0 ≤ h0.size) (Ga : Exa Z h0 a0 cS) (Gf : Fld Z h0 a0 cS "value" "[B" .null) (Gc : Fld Z h0 a0 cS "coder" "B" (.int 0)) (Ge : own_Pv Z h0 a1 (2 : Int32) [c0, c1] .char) (J0 : own_J Z h0) (Gh : a0 ≠ a1) (hL0 : ¬ (255 : Int32) < c0) (hL1 : ¬ (255 : Int32) < c1) (Gb : n0 ≤ a0) :
    MetFree l y27 (head1 (Jvm.Cond.code y27 Gq 2 none :: ws) Qi1L2) (fun a U => a = #[(.ref a0), (.ref a1)] ∧ Z.Warmed39 U.vm ∧ U.heap = h0) (fun _ _ _ _ _ => True) (fun _ U o U' => ∃ v L, o = .returned v ∧ own_Q (Ri1L2 (fi1L2_0 c0 c1)) (Ki1L2 Z c0 c1 a0 a1 h0 n0 (fi1L2_0 c0 c1)) v U'.heap L ∧ FrameEnd U o U' L Qi1L2.cells Qi1L2.slots) := by
  refine MetFree.of_bodySF (plainFor_of_name own_pn3) hisR ?_
  intro p e s m args below meth c s₁ Bd hml0 hP hK
  obtain ⟨rfl, hZ, hh⟩ := hP
  have hml : c.maxLocals = 2 := hml0
  have e0 : s₁.heap = h0 := by rw [← hh, Bd.state]; rfl
  exact own_pre (fun t k => castTop (ef_i1L2 m a0 a1) k) (gi1L2_0 hw c0 c1 a0 a1 Gh hL0 hL1 Bd hml hZ Gb s₁ (Stand.of_body Bd) e0 SZ0 (Fr.nil n0) (Keep.refl _ _) Ga Gf Gc Ge J0)
abbrev Qi4U2 : Room := { frames := 4, cells := 2, slots := 6, locals := 89 }
/-! body 2, i4U2 -/
def Ri4U2 (t : Unit) : Option Value := none
def Ki4U2 (Z : State) (c0 c1 : Int32) (a0 a1 : Addr) (h0 : Heap) (n0 : Nat) (t : Unit) (h : Heap) (L : List Loc) : Prop := ∃ xb : Addr, Fr n0 L ∧ Keep h0 h [a0] ∧ h0.size ≤ xb ∧ Exa Z h a0 cS ∧ Fld Z h a0 cS "value" "[B" (.ref xb) ∧ Fld Z h a0 cS "coder" "B" (.int 1) ∧ own_Pv Z h xb (4 : Int32) [(own_lo c0), (own_hi c0), (own_lo c1), (own_hi c1)] .byte ∧ own_J Z h
def fi4U2_0 (c0 c1 : Int32) : Unit := ()
set_option maxRecDepth 65536 in
set_option maxHeartbeats 40000000 in
theorem gi4U2_0 (hw : HW aw Z) {h0 : Heap} {n0 : Nat} (c0 c1 : Int32) (a0 a1 : Addr) (Gh : a0 ≠ a1) (HU : ((255 : Int32) < c0) ∨ (¬ (255 : Int32) < c0 ∧ (255 : Int32) < c1)) (HC : own_ch c0 ∧ own_ch c1)
    (Bd : BodyLoose p l y26 (head1 (Jvm.Cond.code y26 Gk 6 none :: ws) Qi4U2) Gk 6 none e s m #[(.ref a0), (.ref a1), (.int 0), (.int 2), .null] below meth c s₁) (hml : c.maxLocals = 6) (hZ : Z.Warmed39 s.vm) (Gb : n0 ≤ a0) (T0 : State) {locs : List Loc} (X0 : Stand p l e Qi4U2 s m #[(.ref a0), (.ref a1), (.int 0), (.int 2), .null] below meth c T0 locs 0 0) (e0 : T0.heap = h0) (SZ0 : n0 ≤ h0.size) (NF0 : Fr n0 locs) (KP0 : Keep h0 h0 [a0]) (Ga : Exa Z h0 a0 cS) (Gf : Fld Z h0 a0 cS "value" "[B" .null) (Gc : Fld Z h0 a0 cS "coder" "B" (.int 0)) (Ge : own_Pv Z h0 a1 (2 : Int32) [c0, c1] .char) (J0 : own_J Z h0) :
    own_Go p e below s Qi4U2.cells Qi4U2.slots (Ri4U2 (fi4U2_0 c0 c1)) (Ki4U2 Z c0 c1 a0 a1 h0 n0 (fi4U2_0 c0 c1)) (T0.setTop (mkF m 0 #[rv a0, rv a1, iv 0, iv 2, .val .null, uu] [])) := by
  have hx := Bd.exec
  have hby := Bd.bytes
  have hown : s.vm.findClass cS = some m.cls := findClass_of_methodNamed Bd.named
  have hnm := (name_of_methodNamed Bd.named Bd.method).1
  unfold fi4U2_0
  refine op T0 (mkF m 1 #[rv a0, rv a1, iv 0, iv 2, .val .null, uu] [(.ref a0)]) (fun _ k => XS.aloadN X0.here hx rfl (hb hby d2_0) rfl rfl k) ?_
  obtain ⟨T1, X1, e1, st'⟩ := initO X0 hx hZ hown (ow hw 12 rfl) (ow hw 13 rfl) (ow hw 14 rfl) e0 (g := (mkF m 1 #[rv a0, rv a1, iv 0, iv 2, .val .null, uu] [(.ref a0)])) rfl (by rw [hml]; rfl) rfl (hb hby d2_1) (by decide) (W := 0) (by show 2 * 0 + _ ≤ _; exact Nat.le_of_eq rfl) (by decide)
  refine op T1 (mkF m 5 #[rv a0, rv a1, iv 0, iv 2, .val .null, uu] [(.int 2)]) (fun _ k => st' _ (XS.iloadN X1.here hx rfl (hb hby d2_4) rfl k)) ?_
  have hc5 : ¬ ((2 : Int32) = (0 : Int32)) := (by decide)
  refine op T1 (mkF m 27 #[rv a0, rv a1, iv 0, iv 2, .val .null, uu] []) (fun _ k => XS.ifYes X1.here hx rfl (pc0 := 5) (pc' := 27) rfl (hb hby d2_5) rfl ((if0 _ _).trans (feq hc5).2) (by decide) (by decide) k) ?_
  obtain ⟨cs, sf, js⟩ := id J0
  obtain ⟨T2, X2, e2, st'⟩ := getS2 X1 hx hZ hown (host := "") (Or.inl (ow hw 32 rfl)) Via.refl e1 js.1 (g := (mkF m 27 #[rv a0, rv a1, iv 0, iv 2, .val .null, uu] [])) rfl (hb hby d2_27)
  refine op T2 (mkF m 30 #[rv a0, rv a1, iv 0, iv 2, .val .null, uu] [(.int cs)]) (fun _ k => st' _ k) ?_
  have hc30 : ¬ (cs = (0 : Int32)) := js.2.2.2.2.2.1
  refine op T2 (mkF m 36 #[rv a0, rv a1, iv 0, iv 2, .val .null, uu] [(.int 2), (.int 0), (.ref a1)]) (fun _ k => XS.ifNo X2.here hx rfl (hb hby d2_30) rfl ((if0 _ _).trans (feq hc30).1) (XS.aloadN X2.here hx rfl (hb hby d2_33) rfl rfl (XS.iloadN X2.here hx rfl (hb hby d2_34) rfl (XS.iloadN X2.here hx rfl (hb hby d2_35) rfl k)))) ?_
  obtain ⟨_, _, ⟨T3, L3, k3, n3⟩, -, X3', ⟨Lc3, hQ3, l3, y3, z3⟩, st'⟩ := Jvm.LawKit.callS X2 hx (y := y25) hown (mvT hZ (ow hw 33 rfl)) (mvT hZ (ow hw 34 rfl)) (mvT hZ (ow hw 35 rfl)) (mvT hZ (ow hw 36 rfl)) (by decide) (backOf (W := 0) (rmcpU2 l Z aw hw [] c0 c1 a1 h0 n0 SZ0 Ge J0 HU HC) hZ (ow hw 36 rfl) (ow hw 35 rfl) (by decide) (by decide)) (g := (mkF m 36 #[rv a0, rv a1, iv 0, iv 2, .val .null, uu] [(.int 2), (.int 0), (.ref a1)])) rfl (by rw [hml]; rfl) (argsL := [(.ref a1), (.int 0), (.int 2)]) (rest := []) (lenOf own_pd15 rfl) rfl (by show 2 * 0 + _ ≤ _; exact Nat.le_of_eq rfl) (hb hby d2_36) (fun _ _ => ⟨rfl, e2, (by decide : 0 + 2 ≤ _), (by decide : 0 + 6 ≤ _)⟩)
  dsimp only [Pt.U, Pt.locs, Pt.cells, Pt.slots] at X3' l3 y3 z3 st' hQ3
  subst l3 y3 z3
  obtain ⟨b3_rb, rfl, NFq3, KPq3, sz3_rb, p3_0, p3_1⟩ := hQ3
  have X3 : Stand p l e Qi4U2 s m #[(.ref a0), (.ref a1), (.int 0), (.int 2), .null] below meth c T3 _ 2 6 := X3'
  have NF3 := Fr.app NF0 NFq3
  have SZ3 : n0 ≤ T3.heap.size := Nat.le_trans SZ0 KPq3.1
  have KP3 : Keep h0 T3.heap [a0] := KP0.trans KPq3 all0
  have Hx : n0 ≤ b3_rb := Nat.le_trans SZ0 sz3_rb
  have Hm : h0.size ≤ b3_rb := Nat.le_trans KP0.1 sz3_rb
  have Ha : a0 ≠ b3_rb := Nat.ne_of_lt (Nat.lt_of_lt_of_le Ga.lt sz3_rb)
  have Hy : a1 ≠ b3_rb := Nat.ne_of_lt (Nat.lt_of_lt_of_le Ge.lt sz3_rb)
  have f4 := Ga.keep KPq3
  have f5 := Gf.keep KPq3 nin0
  have f6 := Gc.keep KPq3 nin0
  have f7 := Ge.keep KPq3 nin0
  have f8 := own_J.keep J0 KPq3
  refine op T3 (mkF m 45 #[rv a0, rv a1, iv 0, iv 2, .val .null, rv b3_rb] [(.int 2), (.ref b3_rb), (.ref a0)]) (fun _ k => st' _ (XS.astore X3.here hx rfl (hb hby d2_39) rfl rfl (l' := #[rv a0, rv a1, iv 0, iv 2, .val .null, rv b3_rb]) rfl (XS.aloadN X3.here hx rfl (hb hby d2_41) rfl rfl (XS.aload X3.here hx rfl (hb hby d2_42) rfl rfl (XS.iloadN X3.here hx rfl (hb hby d2_44) rfl k))))) ?_
  obtain ⟨_, _, ⟨T9, L9, k9, n9⟩, -, X9', ⟨Lc9, hQ9, l9, y9, z9⟩, st'⟩ := Jvm.LawKit.callS X3 hx (y := y19) hown (mvT hZ (ow hw 40 rfl)) (mvT hZ (ow hw 41 rfl)) (mvT hZ (ow hw 35 rfl)) (mvT hZ (ow hw 42 rfl)) (by decide) (backOf (W := 1) (rmcfl l Z aw hw [] (2 : Int32) (4 : Int32) b3_rb T3.heap n0 SZ3 (own_Pv.be p3_0 (fun _ k => nomatch k))) hZ (ow hw 42 rfl) (ow hw 35 rfl) (by decide) (by decide)) (g := (mkF m 45 #[rv a0, rv a1, iv 0, iv 2, .val .null, rv b3_rb] [(.int 2), (.ref b3_rb), (.ref a0)])) rfl (by rw [hml]; rfl) (argsL := [(.ref b3_rb), (.int 2)]) (rest := [(.ref a0)]) (lenOf own_pd16 rfl) rfl (by show 2 * 0 + _ ≤ _; exact Nat.le_of_eq rfl) (hb hby d2_45) (fun _ _ => ⟨rfl, (rfl : T3.heap = T3.heap), (by decide : 2 + 0 ≤ _), (by decide : 6 + 0 ≤ _)⟩)
  dsimp only [Pt.U, Pt.locs, Pt.cells, Pt.slots] at X9' l9 y9 z9 st' hQ9
  subst l9 y9 z9
  obtain ⟨rfl, rfl, e9⟩ := hQ9
  have X9 : Stand p l e Qi4U2 s m #[(.ref a0), (.ref a1), (.int 0), (.int 2), .null] below meth c T9 _ 2 6 := own_locs X9'
  refine op T9 (mkF m 48 #[rv a0, rv a1, iv 0, iv 2, .val .null, rv b3_rb] [(.int 1), (.ref a0)]) (fun _ k => st' _ k) ?_
  obtain ⟨T10, h10, X10, e10, W10, st'⟩ := putFN X9 hx hZ hown (ow hw 22 rfl) Via.refl e9 f6 f4 (Or.inr ⟨(ow hw 18 rfl), rfl, hnm⟩) (ow hw 3 rfl) (ty := .byte) (v' := (.int 1)) (by decide) rfl (by decide) (g := (mkF m 48 #[rv a0, rv a1, iv 0, iv 2, .val .null, rv b3_rb] [(.int 1), (.ref a0)])) rfl rfl (hb hby d2_48)
  have f11 := f6.same W10
  have f12 := f4.wr W10
  have f13 := f5.other W10 (Or.inr (sn0 hw))
  have f14 := f7.other W10 (Ne.symm Gh)
  have f15 := p3_0.other W10 (Ne.symm Ha)
  have f16 := own_J.wr p3_1 W10
  have NF10 := Fr.snoc X10 NF3 Gb
  have SZ10 : n0 ≤ h10.size := (Nat.le_trans SZ3 (Keep.of_wr W10).1)
  have KP10 : Keep h0 h10 [a0] := KP3.wr W10 (Or.inl (List.mem_of_getElem? (i := 0) rfl))
  refine op T10 (mkF m 54 #[rv a0, rv a1, iv 0, iv 2, .val .null, rv b3_rb] [(.ref b3_rb), (.ref a0)]) (fun _ k => st' _ (XS.aloadN X10.here hx rfl (hb hby d2_51) rfl rfl (XS.aload X10.here hx rfl (hb hby d2_52) rfl rfl k))) ?_
  obtain ⟨T17, h17, X17, e17, W17, st'⟩ := putF X10 hx hZ hown (host := "") (Or.inl (ow hw 21 rfl)) Via.refl e10 f13 f12 (Or.inr ⟨(ow hw 17 rfl), rfl, hnm⟩) (ow hw 3 rfl) (ty := (.array .byte)) (by decide) rfl rfl (g := (mkF m 54 #[rv a0, rv a1, iv 0, iv 2, .val .null, rv b3_rb] [(.ref b3_rb), (.ref a0)])) rfl rfl (hb hby d2_54)
  have f18 := f13.same W17
  have f19 := f12.wr W17
  have f20 := f11.other W17 (Or.inr (sn1 hw))
  have f21 := f14.other W17 (Ne.symm Gh)
  have f22 := f15.other W17 (Ne.symm Ha)
  have f23 := own_J.wr f16 W17
  have NF17 := Fr.snoc X17 NF10 Gb
  have SZ17 : n0 ≤ h17.size := (Nat.le_trans SZ10 (Keep.of_wr W17).1)
  have KP17 : Keep h0 h17 [a0] := KP10.wr W17 (Or.inl (List.mem_of_getElem? (i := 0) rfl))
  refine op T17 (mkF m 57 #[rv a0, rv a1, iv 0, iv 2, .val .null, rv b3_rb] []) (fun _ k => st' _ k) ?_
  exact own_retV X17 hx Bd.notSynchronized Bd.returns (hb hby d2_57) (by rw [e17]; exact ⟨b3_rb, NF17, KP17, Hm, f19, f18, f20, f22, f23⟩) (by decide) (by decide)
theorem ef_i4U2 (m : MethodId) (a0 a1 : Addr) : entryFrame m #[(.ref a0), (.ref a1), (.int 0), (.int 2), .null] 6 = mkF m 0 #[rv a0, rv a1, iv 0, iv 2, .val .null, uu] [] := by first | (simp [entryFrame, mkF, argsToLocals, Value.category]; done) | rfl
set_option maxRecDepth 65536 in
set_option maxHeartbeats 40000000 in
theorem rmi4U2 (l : Launch) (Z : State) (aw : Array Value) (hw : HW aw Z) (ws : List Jvm.Cond) (c0 c1 : Int32) (a0 a1 : Addr) (h0 : Heap) (n0 : Nat) (SZ0 : n0 ≤ h0.size) (Ga : Exa Z h0 a0 cS) (Gf : Fld Z h0 a0 cS "value" "[B" .null) (Gc : Fld Z h0 a0 cS "coder" "B" (.int 0)) (Ge : own_Pv Z h0 a1 (2 : Int32) [c0, c1] .char) (J0 : own_J Z h0) (Gh : a0 ≠ a1) (HU : ((255 : Int32) < c0) ∨ (¬ (255 : Int32) < c0 ∧ (255 : Int32) < c1)) (HC : own_ch c0 ∧ own_ch c1) (Gb : n0 ≤ a0) :
    MetFree l y26 (head1 (Jvm.Cond.code y26 Gk 6 none :: ws) Qi4U2) (fun a U => a = #[(.ref a0), (.ref a1), (.int 0), (.int 2), .null] ∧ Z.Warmed39 U.vm ∧ U.heap = h0) (fun _ _ _ _ _ => True) (fun _ U o U' => ∃ v L, o = .returned v ∧ own_Q (Ri4U2 (fi4U2_0 c0 c1)) (Ki4U2 Z c0 c1 a0 a1 h0 n0 (fi4U2_0 c0 c1)) v U'.heap L ∧ FrameEnd U o U' L Qi4U2.cells Qi4U2.slots) := by
  refine MetFree.of_bodySF (plainFor_of_name own_pn3) hisR ?_
  intro p e s m args below meth c s₁ Bd hml0 hP hK
  obtain ⟨rfl, hZ, hh⟩ := hP
  have hml : c.maxLocals = 6 := hml0
  have e0 : s₁.heap = h0 := by rw [← hh, Bd.state]; rfl
  exact own_pre (fun t k => castTop (ef_i4U2 m a0 a1) k) (gi4U2_0 hw c0 c1 a0 a1 Gh HU HC Bd hml hZ Gb s₁ (Stand.of_body Bd) e0 SZ0 (Fr.nil n0) (Keep.refl _ _) Ga Gf Gc Ge J0)
abbrev Qi1U2 : Room := { frames := 5, cells := 2, slots := 6, locals := 114 }
/-! body 1, i1U2 -/
def Ri1U2 (t : Unit) : Option Value := none
def Ki1U2 (Z : State) (c0 c1 : Int32) (a0 a1 : Addr) (h0 : Heap) (n0 : Nat) (t : Unit) (h : Heap) (L : List Loc) : Prop := ∃ xb : Addr, Fr n0 L ∧ Keep h0 h [a0] ∧ h0.size ≤ xb ∧ Exa Z h a0 cS ∧ Fld Z h a0 cS "value" "[B" (.ref xb) ∧ Fld Z h a0 cS "coder" "B" (.int 1) ∧ own_Pv Z h xb (4 : Int32) [(own_lo c0), (own_hi c0), (own_lo c1), (own_hi c1)] .byte ∧ own_J Z h
def fi1U2_0 (c0 c1 : Int32) : Unit := ()
set_option maxRecDepth 65536 in
set_option maxHeartbeats 40000000 in
theorem gi1U2_0 (hw : HW aw Z) {h0 : Heap} {n0 : Nat} (c0 c1 : Int32) (a0 a1 : Addr) (Gh : a0 ≠ a1) (HU : ((255 : Int32) < c0) ∨ (¬ (255 : Int32) < c0 ∧ (255 : Int32) < c1)) (HC : own_ch c0 ∧ own_ch c1)
    (Bd : BodyLoose p l y27 (head1 (Jvm.Cond.code y27 Gq 2 none :: ws) Qi1U2) Gq 2 none e s m #[(.ref a0), (.ref a1)] below meth c s₁) (hml : c.maxLocals = 2) (hZ : Z.Warmed39 s.vm) (Gb : n0 ≤ a0) (T0 : State) {locs : List Loc} (X0 : Stand p l e Qi1U2 s m #[(.ref a0), (.ref a1)] below meth c T0 locs 0 0) (e0 : T0.heap = h0) (SZ0 : n0 ≤ h0.size) (NF0 : Fr n0 locs) (KP0 : Keep h0 h0 [a0]) (Ga : Exa Z h0 a0 cS) (Gf : Fld Z h0 a0 cS "value" "[B" .null) (Gc : Fld Z h0 a0 cS "coder" "B" (.int 0)) (Ge : own_Pv Z h0 a1 (2 : Int32) [c0, c1] .char) (J0 : own_J Z h0) :
    own_Go p e below s Qi1U2.cells Qi1U2.slots (Ri1U2 (fi1U2_0 c0 c1)) (Ki1U2 Z c0 c1 a0 a1 h0 n0 (fi1U2_0 c0 c1)) (T0.setTop (mkF m 0 #[rv a0, rv a1] [])) := by
  have hx := Bd.exec
  have hby := Bd.bytes
  have hown : s.vm.findClass cS = some m.cls := findClass_of_methodNamed Bd.named
  have hnm := (name_of_methodNamed Bd.named Bd.method).1
  unfold fi1U2_0
  refine op T0 (mkF m 4 #[rv a0, rv a1] [(.ref a1), (.int 0), (.ref a1), (.ref a0)]) (fun _ k => XS.aloadN X0.here hx rfl (hb hby d1_0) rfl rfl (XS.aloadN X0.here hx rfl (hb hby d1_1) rfl rfl (XS.iconst X0.here hx rfl (hb hby d1_2) (XS.aloadN X0.here hx rfl (hb hby d1_3) rfl rfl k)))) ?_
  obtain ⟨k1, cl1, Ar1, q1, S1, N1, H1, G1⟩ := id Ge
  refine op T0 (mkF m 5 #[rv a0, rv a1] [(.int 2), (.int 0), (.ref a1), (.ref a0)]) (fun t k => X0.arraylength hx (by rw [e0]; exact Ar1.1) (State.isArrayOf_alike hZ.alike Ar1.2.1) (g := (mkF m 4 #[rv a0, rv a1] [(.ref a1), (.int 0), (.ref a1), (.ref a0)])) rfl rfl (hb hby d1_4) t (by rw [len_of S1 N1]; exact k)) ?_
  refine op T0 (mkF m 6 #[rv a0, rv a1] [.null, (.int 2), (.int 0), (.ref a1), (.ref a0)]) (fun _ k => XS.aconstNull X0.here hx rfl (hb hby d1_5) k) ?_
  obtain ⟨_, _, ⟨T2, L2, k2, n2⟩, -, X2', ⟨Lc2, hQ2, l2, y2, z2⟩, st'⟩ := X0.specialBack hx (y := y26) rfl hown (mvT hZ (ow hw 8 rfl)) (mvT hZ (ow hw 9 rfl)) (mvT hZ (ow hw 11 rfl)) (by decide) (backOf (W := 0) (rmi4U2 l Z aw hw [] c0 c1 a0 a1 h0 n0 SZ0 Ga Gf Gc Ge J0 Gh HU HC Gb) hZ (ow hw 11 rfl) (ow hw 4 rfl) (by decide) (by decide)) (g := (mkF m 6 #[rv a0, rv a1] [.null, (.int 2), (.int 0), (.ref a1), (.ref a0)])) rfl (by rw [hml]; rfl) (Steps.refl _) (a := a0) (argsL := [(.ref a1), (.int 0), (.int 2), .null]) (rest := []) (lenOf own_pd17 rfl) rfl (by show 2 * 0 + _ ≤ _; exact Nat.le_of_eq rfl) (hb hby d1_6) (fun _ _ => ⟨rfl, e0, (by decide : 0 + 2 ≤ _), (by decide : 0 + 6 ≤ _)⟩)
  dsimp only [Pt.U, Pt.locs, Pt.cells, Pt.slots] at X2' l2 y2 z2 st' hQ2
  subst l2 y2 z2
  obtain ⟨rfl, b2_xb, NFq2, KPq2, sz2_xb, p2_0, p2_1, p2_2, p2_3, p2_4⟩ := hQ2
  have X2 : Stand p l e Qi1U2 s m #[(.ref a0), (.ref a1)] below meth c T2 _ 2 6 := X2'
  have NF2 := Fr.app NF0 NFq2
  have SZ2 : n0 ≤ T2.heap.size := Nat.le_trans SZ0 KPq2.1
  have KP2 : Keep h0 T2.heap [a0] := KP0.trans KPq2 (allS (Or.inl (List.mem_of_getElem? (i := 0) rfl)) all0)
  have Hz : n0 ≤ b2_xb := Nat.le_trans SZ0 sz2_xb
  have Hn : h0.size ≤ b2_xb := Nat.le_trans KP0.1 sz2_xb
  have J1 : a0 ≠ b2_xb := Nat.ne_of_lt (Nat.lt_of_lt_of_le Ga.lt sz2_xb)
  have J2 : a1 ≠ b2_xb := Nat.ne_of_lt (Nat.lt_of_lt_of_le Ge.lt sz2_xb)
  have f3 := Ga.keep KPq2
  have f4 := Ge.keep KPq2 (ninS (Ne.symm Gh) nin0)
  refine op T2 (mkF m 9 #[rv a0, rv a1] []) (fun _ k => st'.trans k) ?_
  exact own_retV X2 hx Bd.notSynchronized Bd.returns (hb hby d1_9) ⟨b2_xb, NF2, KP2, Hn, p2_0, p2_1, p2_2, p2_3, p2_4⟩ (by decide) (by decide)
theorem ef_i1U2 (m : MethodId) (a0 a1 : Addr) : entryFrame m #[(.ref a0), (.ref a1)] 2 = mkF m 0 #[rv a0, rv a1] [] := by first | (simp [entryFrame, mkF, argsToLocals, Value.category]; done) | rfl
set_option maxRecDepth 65536 in
set_option maxHeartbeats 40000000 in
theorem rmi1U2 (l : Launch) (Z : State) (aw : Array Value) (hw : HW aw Z) (ws : List Jvm.Cond) (c0 c1 : Int32) (a0 a1 : Addr) (h0 : Heap) (n0 : Nat) (SZ0 : n0 ≤ h0.size) (Ga : Exa Z h0 a0 cS) (Gf : Fld Z h0 a0 cS "value" "[B" .null) (Gc : Fld Z h0 a0 cS "coder" "B" (.int 0)) (Ge : own_Pv Z h0 a1 (2 : Int32) [c0, c1] .char) (J0 : own_J Z h0) (Gh : a0 ≠ a1) (HU : ((255 : Int32) < c0) ∨ (¬ (255 : Int32) < c0 ∧ (255 : Int32) < c1)) (HC : own_ch c0 ∧ own_ch c1) (Gb : n0 ≤ a0) :
    MetFree l y27 (head1 (Jvm.Cond.code y27 Gq 2 none :: ws) Qi1U2) (fun a U => a = #[(.ref a0), (.ref a1)] ∧ Z.Warmed39 U.vm ∧ U.heap = h0) (fun _ _ _ _ _ => True) (fun _ U o U' => ∃ v L, o = .returned v ∧ own_Q (Ri1U2 (fi1U2_0 c0 c1)) (Ki1U2 Z c0 c1 a0 a1 h0 n0 (fi1U2_0 c0 c1)) v U'.heap L ∧ FrameEnd U o U' L Qi1U2.cells Qi1U2.slots) := by
  refine MetFree.of_bodySF (plainFor_of_name own_pn3) hisR ?_
  intro p e s m args below meth c s₁ Bd hml0 hP hK
  obtain ⟨rfl, hZ, hh⟩ := hP
  have hml : c.maxLocals = 2 := hml0
  have e0 : s₁.heap = h0 := by rw [← hh, Bd.state]; rfl
  exact own_pre (fun t k => castTop (ef_i1U2 m a0 a1) k) (gi1U2_0 hw c0 c1 a0 a1 Gh HU HC Bd hml hZ Gb s₁ (Stand.of_body Bd) e0 SZ0 (Fr.nil n0) (Keep.refl _ _) Ga Gf Gc Ge J0)
def own_S2 (Z : State) (h : Heap) (n0 : Nat) (a : Addr) (c0 c1 : Int32) : Prop := (own_ch c0 ∧ own_ch c1) ∧ ∃ b, Exa Z h a cS ∧ Fld Z h a cS "value" "[B" (.ref b) ∧ ((Fld Z h a cS "coder" "B" (.int 0) ∧ (¬ (255 : Int32) < c0 ∧ ¬ (255 : Int32) < c1) ∧ own_Pv Z h b (2 : Int32) [(own_by c0), (own_by c1)] .byte) ∨ (Fld Z h a cS "coder" "B" (.int 1) ∧ own_Pv Z h b (4 : Int32) [(own_lo c0), (own_hi c0), (own_lo c1), (own_hi c1)] .byte))
theorem own_S2.exa {Z : State} {h : Heap} {n0 : Nat} {a : Addr} {c0 c1 : Int32} (F : own_S2 Z h n0 a c0 c1) : Exa Z h a cS := by obtain ⟨-, b, E, -⟩ := F; exact E
theorem own_S2.ext {Z : State} {h h' : Heap} {n0 : Nat} {a : Addr} {c0 c1 : Int32} (F : own_S2 Z h n0 a c0 c1) (E : Ext h h') : own_S2 Z h' n0 a c0 c1 := by obtain ⟨q, b, x, y, ⟨u, v, w⟩ | ⟨u, w⟩⟩ := F; exact ⟨q, b, x.ext E, y.ext E, Or.inl ⟨u.ext E, v, w.ext E⟩⟩; exact ⟨q, b, x.ext E, y.ext E, Or.inr ⟨u.ext E, w.ext E⟩⟩
set_option maxRecDepth 65536 in
set_option maxHeartbeats 40000000 in
theorem rmsn2 (l : Launch) (Z : State) (aw : Array Value) (hw : HW aw Z) (ws : List Jvm.Cond) (c0 c1 : Int32) (a0 a1 : Addr) (h0 : Heap) (n0 : Nat) (SZ0 : n0 ≤ h0.size) (Ga : Exa Z h0 a0 cS) (Gf : Fld Z h0 a0 cS "value" "[B" .null) (Gc : Fld Z h0 a0 cS "coder" "B" (.int 0)) (Ge : own_Pv Z h0 a1 (2 : Int32) [c0, c1] .char) (J0 : own_J Z h0) (Gh : a0 ≠ a1) (HC : own_ch c0 ∧ own_ch c1) (Gb : n0 ≤ a0) :
    MetFree l y27 (head1 (Jvm.Cond.code y27 Gq 2 none :: ws) Qi1U2) (fun a U => a = #[(.ref a0), (.ref a1)] ∧ Z.Warmed39 U.vm ∧ U.heap = h0) (fun _ _ _ _ _ => True) (fun _ U o U' => ∃ v L, o = .returned v ∧ own_Q (Ri1U2 ()) (fun h L => Fr n0 L ∧ Keep h0 h [a0] ∧ own_S2 Z h n0 a0 c0 c1 ∧ own_J Z h) v U'.heap L ∧ FrameEnd U o U' L Qi1U2.cells Qi1U2.slots) := by
  by_cases HL : ¬ (255 : Int32) < c0 ∧ ¬ (255 : Int32) < c1
  · refine own_metR (rmi1L2 l Z aw hw ws c0 c1 a0 a1 h0 n0 SZ0 Ga Gf Gc Ge J0 Gh HL.1 HL.2 Gb) rfl ?_
    intro h L hk
    obtain ⟨xb, NF, KP, sz, e, f, g, q, j⟩ := hk
    exact ⟨NF, KP, ⟨HC, xb, e, f, Or.inl ⟨g, HL, q⟩⟩, j⟩
  · have HU : ((255 : Int32) < c0) ∨ (¬ (255 : Int32) < c0 ∧ (255 : Int32) < c1) := by
      by_cases k0 : (255 : Int32) < c0
      · exact Or.inl k0
      · exact Or.inr ⟨k0, Decidable.byContradiction fun k => HL ⟨k0, k⟩⟩
    refine own_metR (rmi1U2 l Z aw hw ws c0 c1 a0 a1 h0 n0 SZ0 Ga Gf Gc Ge J0 Gh HU HC Gb) rfl ?_
    intro h L hk
    obtain ⟨xb, NF, KP, sz, e, f, g, q, j⟩ := hk
    exact ⟨NF, KP, ⟨HC, xb, e, f, Or.inr ⟨g, q⟩⟩, j⟩
set_option maxRecDepth 65536 in
set_option maxHeartbeats 40000000 in
theorem rmiew2 (l : Launch) (Z : State) (aw : Array Value) (hw : HW aw Z) (ws : List Jvm.Cond) (c0 c1 : Int32) (a0 : Addr) (h0 : Heap) (n0 : Nat) (SZ0 : n0 ≤ h0.size) (W_a0 : own_S2 Z h0 n0 a0 c0 c1) :
    MetFree l y10 (head1 (Jvm.Cond.code y10 Hc 1 (some .boolean) :: ws) Qie) (fun a U => a = #[(.ref a0)] ∧ Z.Warmed39 U.vm ∧ U.heap = h0) (fun _ _ _ _ _ => True) (fun _ U o U' => ∃ v L, o = .returned v ∧ own_Q (some (.int 0)) (own_K0 h0) v U'.heap L ∧ FrameEnd U o U' L Qie.cells Qie.slots) := by
  obtain ⟨hc, b, E, Fv, ⟨Fc, hl, P⟩ | ⟨Fc, P⟩⟩ := W_a0
  · exact own_metR (rmie l Z aw hw ws 2 a0 b h0 n0 SZ0 Fv (own_Pv.be P (fun _ k => nomatch k))) (congrArg (fun x => some (Value.int x)) (by decide : fie_0 2 = 0)) (fun _ _ q => q)
  · exact own_metR (rmie l Z aw hw ws 4 a0 b h0 n0 SZ0 Fv (own_Pv.be P (fun _ k => nomatch k))) (congrArg (fun x => some (Value.int x)) (by decide : fie_0 4 = 0)) (fun _ _ q => q)
set_option maxRecDepth 65536 in
set_option maxHeartbeats 40000000 in
theorem rmlenw2 (l : Launch) (Z : State) (aw : Array Value) (hw : HW aw Z) (ws : List Jvm.Cond) (c0 c1 : Int32) (a0 : Addr) (h0 : Heap) (n0 : Nat) (SZ0 : n0 ≤ h0.size) (W_a0 : own_S2 Z h0 n0 a0 c0 c1) (J0 : own_J Z h0) :
    MetFree l y9 (head1 (Jvm.Cond.code y9 Hi 1 (some .int) :: ws) Qlen) (fun a U => a = #[(.ref a0)] ∧ Z.Warmed39 U.vm ∧ U.heap = h0) (fun _ _ _ _ _ => True) (fun _ U o U' => ∃ v L, o = .returned v ∧ own_Q (some (.int 2)) (own_K0 h0) v U'.heap L ∧ FrameEnd U o U' L Qlen.cells Qlen.slots) := by
  obtain ⟨hc, b, E, Fv, ⟨Fc, hl, P⟩ | ⟨Fc, P⟩⟩ := W_a0
  · exact own_metR (rmlen l Z aw hw ws 2 0 a0 b h0 n0 SZ0 E Fv Fc (own_Pv.be P (fun _ k => nomatch k)) J0) (congrArg (fun x => some (Value.int x)) (by decide : flen_0 2 0 = 2)) (fun _ _ q => q)
  · exact own_metR (rmlen l Z aw hw ws 4 1 a0 b h0 n0 SZ0 E Fv Fc (own_Pv.be P (fun _ k => nomatch k)) J0) (congrArg (fun x => some (Value.int x)) (by decide : flen_0 4 1 = 2)) (fun _ _ q => q)
set_option maxRecDepth 65536 in
set_option maxHeartbeats 40000000 in
theorem rmchw20 (l : Launch) (Z : State) (aw : Array Value) (hw : HW aw Z) (ws : List Jvm.Cond) (c0 c1 : Int32) (a0 : Addr) (h0 : Heap) (n0 : Nat) (SZ0 : n0 ≤ h0.size) (W_a0 : own_S2 Z h0 n0 a0 c0 c1) (J0 : own_J Z h0) :
    MetFree l y11 (head1 (Jvm.Cond.code y11 Gy 2 (some .char) :: ws) Qch0) (fun a U => a = #[(.ref a0), (.int 0)] ∧ Z.Warmed39 U.vm ∧ U.heap = h0) (fun _ _ _ _ _ => True) (fun _ U o U' => ∃ v L, o = .returned v ∧ own_Q (some (.int c0)) (own_K0 h0) v U'.heap L ∧ FrameEnd U o U' L Qch0.cells Qch0.slots) := by
  obtain ⟨hc, b, E, Fv, ⟨Fc, hl, P⟩ | ⟨Fc, P⟩⟩ := W_a0
  · exact own_metR (rmch0 l Z aw hw ws 0 2 (own_by c0) a0 b h0 n0 SZ0 E Fv Fc (own_Pv.be P (by intro x hx; cases List.mem_singleton.mp hx; rfl)) J0 (by decide) (by decide)) (congrArg (fun x => some (Value.int x)) (own_ch0E _ _ hc.1 hl.1)) (fun _ _ q => q)
  · exact own_metR (rmch1 l Z aw hw ws 0 4 (own_lo c0) (own_hi c0) a0 b h0 n0 SZ0 E Fv Fc (own_Pv.be P (by intro x hx; simp only [List.mem_cons, List.not_mem_nil, or_false] at hx; rcases hx with rfl | rfl <;> rfl)) J0 (by decide) (by decide) (by decide) (by decide) (by decide) (by decide)) (congrArg (fun x => some (Value.int x)) (own_ch1E _ _ hc.1)) (fun _ _ q => q)
set_option maxRecDepth 65536 in
set_option maxHeartbeats 40000000 in
theorem rmchw21 (l : Launch) (Z : State) (aw : Array Value) (hw : HW aw Z) (ws : List Jvm.Cond) (c0 c1 : Int32) (a0 : Addr) (h0 : Heap) (n0 : Nat) (SZ0 : n0 ≤ h0.size) (W_a0 : own_S2 Z h0 n0 a0 c0 c1) (J0 : own_J Z h0) :
    MetFree l y11 (head1 (Jvm.Cond.code y11 Gy 2 (some .char) :: ws) Qch0) (fun a U => a = #[(.ref a0), (.int 1)] ∧ Z.Warmed39 U.vm ∧ U.heap = h0) (fun _ _ _ _ _ => True) (fun _ U o U' => ∃ v L, o = .returned v ∧ own_Q (some (.int c1)) (own_K0 h0) v U'.heap L ∧ FrameEnd U o U' L Qch0.cells Qch0.slots) := by
  obtain ⟨hc, b, E, Fv, ⟨Fc, hl, P⟩ | ⟨Fc, P⟩⟩ := W_a0
  · exact own_metR (rmch0 l Z aw hw ws 1 2 (own_by c1) a0 b h0 n0 SZ0 E Fv Fc (own_Pv.be P (by intro x hx; cases List.mem_singleton.mp hx; rfl)) J0 (by decide) (by decide)) (congrArg (fun x => some (Value.int x)) (own_ch0E _ _ hc.2 hl.2)) (fun _ _ q => q)
  · exact own_metR (rmch1 l Z aw hw ws 1 4 (own_lo c1) (own_hi c1) a0 b h0 n0 SZ0 E Fv Fc (own_Pv.be P (by intro x hx; simp only [List.mem_cons, List.not_mem_nil, or_false] at hx; rcases hx with rfl | rfl <;> rfl)) J0 (by decide) (by decide) (by decide) (by decide) (by decide) (by decide)) (congrArg (fun x => some (Value.int x)) (own_ch1E _ _ hc.2)) (fun _ _ q => q)
set_option maxRecDepth 65536 in
set_option maxHeartbeats 40000000 in
theorem rmcpU3 (l : Launch) (Z : State) (aw : Array Value) (hw : HW aw Z) (ws : List Jvm.Cond) (c0 c1 c2 : Int32) (a0 : Addr) (h0 : Heap) (n0 : Nat) (SZ0 : n0 ≤ h0.size) (G0 : own_Pv Z h0 a0 (3 : Int32) [c0, c1, c2] .char) (J0 : own_J Z h0) (HU : ((255 : Int32) < c0) ∨ (¬ (255 : Int32) < c0 ∧ (255 : Int32) < c1) ∨ (¬ (255 : Int32) < c0 ∧ ¬ (255 : Int32) < c1 ∧ (255 : Int32) < c2)) (HC : own_ch c0 ∧ own_ch c1 ∧ own_ch c2) :
    MetFree l y25 (head1 (Jvm.Cond.code y25 Gi 6 (some (.array .byte)) :: ws) QcpU30) (fun a U => a = #[(.ref a0), (.int 0), (.int 3)] ∧ Z.Warmed39 U.vm ∧ U.heap = h0) (fun _ _ _ _ _ => True) (fun _ U o U' => ∃ v L, o = .returned v ∧ own_QE (KcpU30 Z c0 c1 c2 a0 h0 n0 (fcpU30_0 c0 c1 c2)) v U'.heap L ∧ FrameEnd U o U' L QcpU30.cells QcpU30.slots) := by
  rcases HU with k0 | ⟨k0, k1⟩ | ⟨k0, k1, k2⟩
  · exact own_metE (rmcpU30 l Z aw hw ws c0 c1 c2 a0 h0 n0 SZ0 G0 J0 k0 HC.1) (fun _ _ _ q => q)
  · exact own_metE (rmcpU31 l Z aw hw ws c0 c1 c2 a0 h0 n0 SZ0 G0 J0 k0 k1 HC.2.1) (fun _ _ _ q => q)
  · exact own_metE (rmcpU32 l Z aw hw ws c0 c1 c2 a0 h0 n0 SZ0 G0 J0 k0 k1 k2 HC.2.2) (fun _ _ _ q => q)
abbrev Qi4L3 : Room := { frames := 4, cells := 2, slots := 9, locals := 89 }
/-! body 2, i4L3 -/
def Ri4L3 (t : Unit) : Option Value := none
def Ki4L3 (Z : State) (c0 c1 c2 : Int32) (a0 a1 : Addr) (h0 : Heap) (n0 : Nat) (t : Unit) (h : Heap) (L : List Loc) : Prop := ∃ xb : Addr, Fr n0 L ∧ Keep h0 h [a0] ∧ h0.size ≤ xb ∧ Exa Z h a0 cS ∧ Fld Z h a0 cS "value" "[B" (.ref xb) ∧ Fld Z h a0 cS "coder" "B" (.int 0) ∧ own_Pv Z h xb (3 : Int32) [(own_by c0), (own_by c1), (own_by c2)] .byte ∧ own_J Z h
def fi4L3_0 (c0 c1 c2 : Int32) : Unit := ()
set_option maxRecDepth 65536 in
set_option maxHeartbeats 40000000 in
theorem gi4L3_0 (hw : HW aw Z) {h0 : Heap} {n0 : Nat} (c0 c1 c2 : Int32) (a0 a1 : Addr) (Gh : a0 ≠ a1) (hL0 : ¬ (255 : Int32) < c0) (hL1 : ¬ (255 : Int32) < c1) (hL2 : ¬ (255 : Int32) < c2)
    (Bd : BodyLoose p l y26 (head1 (Jvm.Cond.code y26 Gk 6 none :: ws) Qi4L3) Gk 6 none e s m #[(.ref a0), (.ref a1), (.int 0), (.int 3), .null] below meth c s₁) (hml : c.maxLocals = 6) (hZ : Z.Warmed39 s.vm) (Gb : n0 ≤ a0) (T0 : State) {locs : List Loc} (X0 : Stand p l e Qi4L3 s m #[(.ref a0), (.ref a1), (.int 0), (.int 3), .null] below meth c T0 locs 0 0) (e0 : T0.heap = h0) (SZ0 : n0 ≤ h0.size) (NF0 : Fr n0 locs) (KP0 : Keep h0 h0 [a0]) (Ga : Exa Z h0 a0 cS) (Gf : Fld Z h0 a0 cS "value" "[B" .null) (Gc : Fld Z h0 a0 cS "coder" "B" (.int 0)) (Ge : own_Pv Z h0 a1 (3 : Int32) [c0, c1, c2] .char) (J0 : own_J Z h0) :
    own_Go p e below s Qi4L3.cells Qi4L3.slots (Ri4L3 (fi4L3_0 c0 c1 c2)) (Ki4L3 Z c0 c1 c2 a0 a1 h0 n0 (fi4L3_0 c0 c1 c2)) (T0.setTop (mkF m 0 #[rv a0, rv a1, iv 0, iv 3, .val .null, uu] [])) := by
  have hx := Bd.exec
  have hby := Bd.bytes
  have hown : s.vm.findClass cS = some m.cls := findClass_of_methodNamed Bd.named
  have hnm := (name_of_methodNamed Bd.named Bd.method).1
  unfold fi4L3_0
  refine op T0 (mkF m 1 #[rv a0, rv a1, iv 0, iv 3, .val .null, uu] [(.ref a0)]) (fun _ k => XS.aloadN X0.here hx rfl (hb hby d2_0) rfl rfl k) ?_
  obtain ⟨T1, X1, e1, st'⟩ := initO X0 hx hZ hown (ow hw 12 rfl) (ow hw 13 rfl) (ow hw 14 rfl) e0 (g := (mkF m 1 #[rv a0, rv a1, iv 0, iv 3, .val .null, uu] [(.ref a0)])) rfl (by rw [hml]; rfl) rfl (hb hby d2_1) (by decide) (W := 0) (by show 2 * 0 + _ ≤ _; exact Nat.le_of_eq rfl) (by decide)
  refine op T1 (mkF m 5 #[rv a0, rv a1, iv 0, iv 3, .val .null, uu] [(.int 3)]) (fun _ k => st' _ (XS.iloadN X1.here hx rfl (hb hby d2_4) rfl k)) ?_
  have hc5 : ¬ ((3 : Int32) = (0 : Int32)) := (by decide)
  refine op T1 (mkF m 27 #[rv a0, rv a1, iv 0, iv 3, .val .null, uu] []) (fun _ k => XS.ifYes X1.here hx rfl (pc0 := 5) (pc' := 27) rfl (hb hby d2_5) rfl ((if0 _ _).trans (feq hc5).2) (by decide) (by decide) k) ?_
  obtain ⟨cs, sf, js⟩ := id J0
  obtain ⟨T2, X2, e2, st'⟩ := getS2 X1 hx hZ hown (host := "") (Or.inl (ow hw 32 rfl)) Via.refl e1 js.1 (g := (mkF m 27 #[rv a0, rv a1, iv 0, iv 3, .val .null, uu] [])) rfl (hb hby d2_27)
  refine op T2 (mkF m 30 #[rv a0, rv a1, iv 0, iv 3, .val .null, uu] [(.int cs)]) (fun _ k => st' _ k) ?_
  have hc30 : ¬ (cs = (0 : Int32)) := js.2.2.2.2.2.1
  refine op T2 (mkF m 36 #[rv a0, rv a1, iv 0, iv 3, .val .null, uu] [(.int 3), (.int 0), (.ref a1)]) (fun _ k => XS.ifNo X2.here hx rfl (hb hby d2_30) rfl ((if0 _ _).trans (feq hc30).1) (XS.aloadN X2.here hx rfl (hb hby d2_33) rfl rfl (XS.iloadN X2.here hx rfl (hb hby d2_34) rfl (XS.iloadN X2.here hx rfl (hb hby d2_35) rfl k)))) ?_
  obtain ⟨_, _, ⟨T3, L3, k3, n3⟩, -, X3', ⟨Lc3, hQ3, l3, y3, z3⟩, st'⟩ := Jvm.LawKit.callS X2 hx (y := y25) hown (mvT hZ (ow hw 33 rfl)) (mvT hZ (ow hw 34 rfl)) (mvT hZ (ow hw 35 rfl)) (mvT hZ (ow hw 36 rfl)) (by decide) (backOf (W := 0) (rmcpL3 l Z aw hw [] c0 c1 c2 a1 h0 n0 SZ0 Ge J0 hL0 hL1 hL2) hZ (ow hw 36 rfl) (ow hw 35 rfl) (by decide) (by decide)) (g := (mkF m 36 #[rv a0, rv a1, iv 0, iv 3, .val .null, uu] [(.int 3), (.int 0), (.ref a1)])) rfl (by rw [hml]; rfl) (argsL := [(.ref a1), (.int 0), (.int 3)]) (rest := []) (lenOf own_pd15 rfl) rfl (by show 2 * 0 + _ ≤ _; exact Nat.le_of_eq rfl) (hb hby d2_36) (fun _ _ => ⟨rfl, e2, (by decide : 0 + 2 ≤ _), (by decide : 0 + 9 ≤ _)⟩)
  dsimp only [Pt.U, Pt.locs, Pt.cells, Pt.slots] at X3' l3 y3 z3 st' hQ3
  subst l3 y3 z3
  obtain ⟨b3_rb, rfl, NFq3, KPq3, sz3_rb, p3_0, p3_1⟩ := hQ3
  have X3 : Stand p l e Qi4L3 s m #[(.ref a0), (.ref a1), (.int 0), (.int 3), .null] below meth c T3 _ 2 9 := X3'
  have NF3 := Fr.app NF0 NFq3
  have SZ3 : n0 ≤ T3.heap.size := Nat.le_trans SZ0 KPq3.1
  have KP3 : Keep h0 T3.heap [a0] := KP0.trans KPq3 all0
  have Hx : n0 ≤ b3_rb := Nat.le_trans SZ0 sz3_rb
  have Hm : h0.size ≤ b3_rb := Nat.le_trans KP0.1 sz3_rb
  have Ha : a0 ≠ b3_rb := Nat.ne_of_lt (Nat.lt_of_lt_of_le Ga.lt sz3_rb)
  have Hy : a1 ≠ b3_rb := Nat.ne_of_lt (Nat.lt_of_lt_of_le Ge.lt sz3_rb)
  have f4 := Ga.keep KPq3
  have f5 := Gf.keep KPq3 nin0
  have f6 := Gc.keep KPq3 nin0
  have f7 := Ge.keep KPq3 nin0
  have f8 := own_J.keep J0 KPq3
  refine op T3 (mkF m 45 #[rv a0, rv a1, iv 0, iv 3, .val .null, rv b3_rb] [(.int 3), (.ref b3_rb), (.ref a0)]) (fun _ k => st' _ (XS.astore X3.here hx rfl (hb hby d2_39) rfl rfl (l' := #[rv a0, rv a1, iv 0, iv 3, .val .null, rv b3_rb]) rfl (XS.aloadN X3.here hx rfl (hb hby d2_41) rfl rfl (XS.aload X3.here hx rfl (hb hby d2_42) rfl rfl (XS.iloadN X3.here hx rfl (hb hby d2_44) rfl k))))) ?_
  obtain ⟨_, _, ⟨T9, L9, k9, n9⟩, -, X9', ⟨Lc9, hQ9, l9, y9, z9⟩, st'⟩ := Jvm.LawKit.callS X3 hx (y := y19) hown (mvT hZ (ow hw 40 rfl)) (mvT hZ (ow hw 41 rfl)) (mvT hZ (ow hw 35 rfl)) (mvT hZ (ow hw 42 rfl)) (by decide) (backOf (W := 1) (rmcfl l Z aw hw [] (3 : Int32) (3 : Int32) b3_rb T3.heap n0 SZ3 (own_Pv.be p3_0 (fun _ k => nomatch k))) hZ (ow hw 42 rfl) (ow hw 35 rfl) (by decide) (by decide)) (g := (mkF m 45 #[rv a0, rv a1, iv 0, iv 3, .val .null, rv b3_rb] [(.int 3), (.ref b3_rb), (.ref a0)])) rfl (by rw [hml]; rfl) (argsL := [(.ref b3_rb), (.int 3)]) (rest := [(.ref a0)]) (lenOf own_pd16 rfl) rfl (by show 2 * 0 + _ ≤ _; exact Nat.le_of_eq rfl) (hb hby d2_45) (fun _ _ => ⟨rfl, (rfl : T3.heap = T3.heap), (by decide : 2 + 0 ≤ _), (by decide : 9 + 0 ≤ _)⟩)
  dsimp only [Pt.U, Pt.locs, Pt.cells, Pt.slots] at X9' l9 y9 z9 st' hQ9
  subst l9 y9 z9
  obtain ⟨rfl, rfl, e9⟩ := hQ9
  have X9 : Stand p l e Qi4L3 s m #[(.ref a0), (.ref a1), (.int 0), (.int 3), .null] below meth c T9 _ 2 9 := own_locs X9'
  refine op T9 (mkF m 48 #[rv a0, rv a1, iv 0, iv 3, .val .null, rv b3_rb] [(.int 0), (.ref a0)]) (fun _ k => st' _ k) ?_
  obtain ⟨T10, h10, X10, e10, W10, st'⟩ := putFN X9 hx hZ hown (ow hw 22 rfl) Via.refl e9 f6 f4 (Or.inr ⟨(ow hw 18 rfl), rfl, hnm⟩) (ow hw 3 rfl) (ty := .byte) (v' := (.int 0)) (by decide) rfl (by decide) (g := (mkF m 48 #[rv a0, rv a1, iv 0, iv 3, .val .null, rv b3_rb] [(.int 0), (.ref a0)])) rfl rfl (hb hby d2_48)
  have f11 := f6.same W10
  have f12 := f4.wr W10
  have f13 := f5.other W10 (Or.inr (sn0 hw))
  have f14 := f7.other W10 (Ne.symm Gh)
  have f15 := p3_0.other W10 (Ne.symm Ha)
  have f16 := own_J.wr p3_1 W10
  have NF10 := Fr.snoc X10 NF3 Gb
  have SZ10 : n0 ≤ h10.size := (Nat.le_trans SZ3 (Keep.of_wr W10).1)
  have KP10 : Keep h0 h10 [a0] := KP3.wr W10 (Or.inl (List.mem_of_getElem? (i := 0) rfl))
  refine op T10 (mkF m 54 #[rv a0, rv a1, iv 0, iv 3, .val .null, rv b3_rb] [(.ref b3_rb), (.ref a0)]) (fun _ k => st' _ (XS.aloadN X10.here hx rfl (hb hby d2_51) rfl rfl (XS.aload X10.here hx rfl (hb hby d2_52) rfl rfl k))) ?_
  obtain ⟨T17, h17, X17, e17, W17, st'⟩ := putF X10 hx hZ hown (host := "") (Or.inl (ow hw 21 rfl)) Via.refl e10 f13 f12 (Or.inr ⟨(ow hw 17 rfl), rfl, hnm⟩) (ow hw 3 rfl) (ty := (.array .byte)) (by decide) rfl rfl (g := (mkF m 54 #[rv a0, rv a1, iv 0, iv 3, .val .null, rv b3_rb] [(.ref b3_rb), (.ref a0)])) rfl rfl (hb hby d2_54)
  have f18 := f13.same W17
  have f19 := f12.wr W17
  have f20 := f11.other W17 (Or.inr (sn1 hw))
  have f21 := f14.other W17 (Ne.symm Gh)
  have f22 := f15.other W17 (Ne.symm Ha)
  have f23 := own_J.wr f16 W17
  have NF17 := Fr.snoc X17 NF10 Gb
  have SZ17 : n0 ≤ h17.size := (Nat.le_trans SZ10 (Keep.of_wr W17).1)
  have KP17 : Keep h0 h17 [a0] := KP10.wr W17 (Or.inl (List.mem_of_getElem? (i := 0) rfl))
  refine op T17 (mkF m 57 #[rv a0, rv a1, iv 0, iv 3, .val .null, rv b3_rb] []) (fun _ k => st' _ k) ?_
  exact own_retV X17 hx Bd.notSynchronized Bd.returns (hb hby d2_57) (by rw [e17]; exact ⟨b3_rb, NF17, KP17, Hm, f19, f18, f20, f22, f23⟩) (by decide) (by decide)
theorem ef_i4L3 (m : MethodId) (a0 a1 : Addr) : entryFrame m #[(.ref a0), (.ref a1), (.int 0), (.int 3), .null] 6 = mkF m 0 #[rv a0, rv a1, iv 0, iv 3, .val .null, uu] [] := by first | (simp [entryFrame, mkF, argsToLocals, Value.category]; done) | rfl
set_option maxRecDepth 65536 in
set_option maxHeartbeats 40000000 in
theorem rmi4L3 (l : Launch) (Z : State) (aw : Array Value) (hw : HW aw Z) (ws : List Jvm.Cond) (c0 c1 c2 : Int32) (a0 a1 : Addr) (h0 : Heap) (n0 : Nat) (SZ0 : n0 ≤ h0.size) (Ga : Exa Z h0 a0 cS) (Gf : Fld Z h0 a0 cS "value" "[B" .null) (Gc : Fld Z h0 a0 cS "coder" "B" (.int 0)) (Ge : own_Pv Z h0 a1 (3 : Int32) [c0, c1, c2] .char) (J0 : own_J Z h0) (Gh : a0 ≠ a1) (hL0 : ¬ (255 : Int32) < c0) (hL1 : ¬ (255 : Int32) < c1) (hL2 : ¬ (255 : Int32) < c2) (Gb : n0 ≤ a0) :
    MetFree l y26 (head1 (Jvm.Cond.code y26 Gk 6 none :: ws) Qi4L3) (fun a U => a = #[(.ref a0), (.ref a1), (.int 0), (.int 3), .null] ∧ Z.Warmed39 U.vm ∧ U.heap = h0) (fun _ _ _ _ _ => True) (fun _ U o U' => ∃ v L, o = .returned v ∧ own_Q (Ri4L3 (fi4L3_0 c0 c1 c2)) (Ki4L3 Z c0 c1 c2 a0 a1 h0 n0 (fi4L3_0 c0 c1 c2)) v U'.heap L ∧ FrameEnd U o U' L Qi4L3.cells Qi4L3.slots) := by
  refine MetFree.of_bodySF (plainFor_of_name own_pn3) hisR ?_
  intro p e s m args below meth c s₁ Bd hml0 hP hK
  obtain ⟨rfl, hZ, hh⟩ := hP
  have hml : c.maxLocals = 6 := hml0
  have e0 : s₁.heap = h0 := by rw [← hh, Bd.state]; rfl
  exact own_pre (fun t k => castTop (ef_i4L3 m a0 a1) k) (gi4L3_0 hw c0 c1 c2 a0 a1 Gh hL0 hL1 hL2 Bd hml hZ Gb s₁ (Stand.of_body Bd) e0 SZ0 (Fr.nil n0) (Keep.refl _ _) Ga Gf Gc Ge J0)
abbrev Qi1L3 : Room := { frames := 5, cells := 2, slots := 9, locals := 114 }
/-! body 1, i1L3 -/
def Ri1L3 (t : Unit) : Option Value := none
def Ki1L3 (Z : State) (c0 c1 c2 : Int32) (a0 a1 : Addr) (h0 : Heap) (n0 : Nat) (t : Unit) (h : Heap) (L : List Loc) : Prop := ∃ xb : Addr, Fr n0 L ∧ Keep h0 h [a0] ∧ h0.size ≤ xb ∧ Exa Z h a0 cS ∧ Fld Z h a0 cS "value" "[B" (.ref xb) ∧ Fld Z h a0 cS "coder" "B" (.int 0) ∧ own_Pv Z h xb (3 : Int32) [(own_by c0), (own_by c1), (own_by c2)] .byte ∧ own_J Z h
def fi1L3_0 (c0 c1 c2 : Int32) : Unit := ()
set_option maxRecDepth 65536 in
set_option maxHeartbeats 40000000 in
theorem gi1L3_0 (hw : HW aw Z) {h0 : Heap} {n0 : Nat} (c0 c1 c2 : Int32) (a0 a1 : Addr) (Gh : a0 ≠ a1) (hL0 : ¬ (255 : Int32) < c0) (hL1 : ¬ (255 : Int32) < c1) (hL2 : ¬ (255 : Int32) < c2)
    (Bd : BodyLoose p l y27 (head1 (Jvm.Cond.code y27 Gq 2 none :: ws) Qi1L3) Gq 2 none e s m #[(.ref a0), (.ref a1)] below meth c s₁) (hml : c.maxLocals = 2) (hZ : Z.Warmed39 s.vm) (Gb : n0 ≤ a0) (T0 : State) {locs : List Loc} (X0 : Stand p l e Qi1L3 s m #[(.ref a0), (.ref a1)] below meth c T0 locs 0 0) (e0 : T0.heap = h0) (SZ0 : n0 ≤ h0.size) (NF0 : Fr n0 locs) (KP0 : Keep h0 h0 [a0]) (Ga : Exa Z h0 a0 cS) (Gf : Fld Z h0 a0 cS "value" "[B" .null) (Gc : Fld Z h0 a0 cS "coder" "B" (.int 0)) (Ge : own_Pv Z h0 a1 (3 : Int32) [c0, c1, c2] .char) (J0 : own_J Z h0) :
    own_Go p e below s Qi1L3.cells Qi1L3.slots (Ri1L3 (fi1L3_0 c0 c1 c2)) (Ki1L3 Z c0 c1 c2 a0 a1 h0 n0 (fi1L3_0 c0 c1 c2)) (T0.setTop (mkF m 0 #[rv a0, rv a1] [])) := by
  have hx := Bd.exec
  have hby := Bd.bytes
  have hown : s.vm.findClass cS = some m.cls := findClass_of_methodNamed Bd.named
  have hnm := (name_of_methodNamed Bd.named Bd.method).1
  unfold fi1L3_0
  refine op T0 (mkF m 4 #[rv a0, rv a1] [(.ref a1), (.int 0), (.ref a1), (.ref a0)]) (fun _ k => XS.aloadN X0.here hx rfl (hb hby d1_0) rfl rfl (XS.aloadN X0.here hx rfl (hb hby d1_1) rfl rfl (XS.iconst X0.here hx rfl (hb hby d1_2) (XS.aloadN X0.here hx rfl (hb hby d1_3) rfl rfl k)))) ?_
  obtain ⟨k1, cl1, Ar1, q1, S1, N1, H1, G1⟩ := id Ge
  refine op T0 (mkF m 5 #[rv a0, rv a1] [(.int 3), (.int 0), (.ref a1), (.ref a0)]) (fun t k => X0.arraylength hx (by rw [e0]; exact Ar1.1) (State.isArrayOf_alike hZ.alike Ar1.2.1) (g := (mkF m 4 #[rv a0, rv a1] [(.ref a1), (.int 0), (.ref a1), (.ref a0)])) rfl rfl (hb hby d1_4) t (by rw [len_of S1 N1]; exact k)) ?_
  refine op T0 (mkF m 6 #[rv a0, rv a1] [.null, (.int 3), (.int 0), (.ref a1), (.ref a0)]) (fun _ k => XS.aconstNull X0.here hx rfl (hb hby d1_5) k) ?_
  obtain ⟨_, _, ⟨T2, L2, k2, n2⟩, -, X2', ⟨Lc2, hQ2, l2, y2, z2⟩, st'⟩ := X0.specialBack hx (y := y26) rfl hown (mvT hZ (ow hw 8 rfl)) (mvT hZ (ow hw 9 rfl)) (mvT hZ (ow hw 11 rfl)) (by decide) (backOf (W := 0) (rmi4L3 l Z aw hw [] c0 c1 c2 a0 a1 h0 n0 SZ0 Ga Gf Gc Ge J0 Gh hL0 hL1 hL2 Gb) hZ (ow hw 11 rfl) (ow hw 4 rfl) (by decide) (by decide)) (g := (mkF m 6 #[rv a0, rv a1] [.null, (.int 3), (.int 0), (.ref a1), (.ref a0)])) rfl (by rw [hml]; rfl) (Steps.refl _) (a := a0) (argsL := [(.ref a1), (.int 0), (.int 3), .null]) (rest := []) (lenOf own_pd17 rfl) rfl (by show 2 * 0 + _ ≤ _; exact Nat.le_of_eq rfl) (hb hby d1_6) (fun _ _ => ⟨rfl, e0, (by decide : 0 + 2 ≤ _), (by decide : 0 + 9 ≤ _)⟩)
  dsimp only [Pt.U, Pt.locs, Pt.cells, Pt.slots] at X2' l2 y2 z2 st' hQ2
  subst l2 y2 z2
  obtain ⟨rfl, b2_xb, NFq2, KPq2, sz2_xb, p2_0, p2_1, p2_2, p2_3, p2_4⟩ := hQ2
  have X2 : Stand p l e Qi1L3 s m #[(.ref a0), (.ref a1)] below meth c T2 _ 2 9 := X2'
  have NF2 := Fr.app NF0 NFq2
  have SZ2 : n0 ≤ T2.heap.size := Nat.le_trans SZ0 KPq2.1
  have KP2 : Keep h0 T2.heap [a0] := KP0.trans KPq2 (allS (Or.inl (List.mem_of_getElem? (i := 0) rfl)) all0)
  have Hz : n0 ≤ b2_xb := Nat.le_trans SZ0 sz2_xb
  have Hn : h0.size ≤ b2_xb := Nat.le_trans KP0.1 sz2_xb
  have J1 : a0 ≠ b2_xb := Nat.ne_of_lt (Nat.lt_of_lt_of_le Ga.lt sz2_xb)
  have J2 : a1 ≠ b2_xb := Nat.ne_of_lt (Nat.lt_of_lt_of_le Ge.lt sz2_xb)
  have f3 := Ga.keep KPq2
  have f4 := Ge.keep KPq2 (ninS (Ne.symm Gh) nin0)
  refine op T2 (mkF m 9 #[rv a0, rv a1] []) (fun _ k => st'.trans k) ?_
  exact own_retV X2 hx Bd.notSynchronized Bd.returns (hb hby d1_9) ⟨b2_xb, NF2, KP2, Hn, p2_0, p2_1, p2_2, p2_3, p2_4⟩ (by decide) (by decide)
theorem ef_i1L3 (m : MethodId) (a0 a1 : Addr) : entryFrame m #[(.ref a0), (.ref a1)] 2 = mkF m 0 #[rv a0, rv a1] [] := by first | (simp [entryFrame, mkF, argsToLocals, Value.category]; done) | rfl
set_option maxRecDepth 65536 in
set_option maxHeartbeats 40000000 in
theorem rmi1L3 (l : Launch) (Z : State) (aw : Array Value) (hw : HW aw Z) (ws : List Jvm.Cond) (c0 c1 c2 : Int32) (a0 a1 : Addr) (h0 : Heap) (n0 : Nat) (SZ0 : n0 ≤ h0.size) (Ga : Exa Z h0 a0 cS) (Gf : Fld Z h0 a0 cS "value" "[B" .null) (Gc : Fld Z h0 a0 cS "coder" "B" (.int 0)) (Ge : own_Pv Z h0 a1 (3 : Int32) [c0, c1, c2] .char) (J0 : own_J Z h0) (Gh : a0 ≠ a1) (hL0 : ¬ (255 : Int32) < c0) (hL1 : ¬ (255 : Int32) < c1) (hL2 : ¬ (255 : Int32) < c2) (Gb : n0 ≤ a0) :
    MetFree l y27 (head1 (Jvm.Cond.code y27 Gq 2 none :: ws) Qi1L3) (fun a U => a = #[(.ref a0), (.ref a1)] ∧ Z.Warmed39 U.vm ∧ U.heap = h0) (fun _ _ _ _ _ => True) (fun _ U o U' => ∃ v L, o = .returned v ∧ own_Q (Ri1L3 (fi1L3_0 c0 c1 c2)) (Ki1L3 Z c0 c1 c2 a0 a1 h0 n0 (fi1L3_0 c0 c1 c2)) v U'.heap L ∧ FrameEnd U o U' L Qi1L3.cells Qi1L3.slots) := by
  refine MetFree.of_bodySF (plainFor_of_name own_pn3) hisR ?_
  intro p e s m args below meth c s₁ Bd hml0 hP hK
  obtain ⟨rfl, hZ, hh⟩ := hP
  have hml : c.maxLocals = 2 := hml0
  have e0 : s₁.heap = h0 := by rw [← hh, Bd.state]; rfl
  exact own_pre (fun t k => castTop (ef_i1L3 m a0 a1) k) (gi1L3_0 hw c0 c1 c2 a0 a1 Gh hL0 hL1 hL2 Bd hml hZ Gb s₁ (Stand.of_body Bd) e0 SZ0 (Fr.nil n0) (Keep.refl _ _) Ga Gf Gc Ge J0)
abbrev Qi4U3 : Room := { frames := 4, cells := 2, slots := 9, locals := 89 }
/-! body 2, i4U3 -/
def Ri4U3 (t : Unit) : Option Value := none
def Ki4U3 (Z : State) (c0 c1 c2 : Int32) (a0 a1 : Addr) (h0 : Heap) (n0 : Nat) (t : Unit) (h : Heap) (L : List Loc) : Prop := ∃ xb : Addr, Fr n0 L ∧ Keep h0 h [a0] ∧ h0.size ≤ xb ∧ Exa Z h a0 cS ∧ Fld Z h a0 cS "value" "[B" (.ref xb) ∧ Fld Z h a0 cS "coder" "B" (.int 1) ∧ own_Pv Z h xb (6 : Int32) [(own_lo c0), (own_hi c0), (own_lo c1), (own_hi c1), (own_lo c2), (own_hi c2)] .byte ∧ own_J Z h
def fi4U3_0 (c0 c1 c2 : Int32) : Unit := ()
set_option maxRecDepth 65536 in
set_option maxHeartbeats 40000000 in
theorem gi4U3_0 (hw : HW aw Z) {h0 : Heap} {n0 : Nat} (c0 c1 c2 : Int32) (a0 a1 : Addr) (Gh : a0 ≠ a1) (HU : ((255 : Int32) < c0) ∨ (¬ (255 : Int32) < c0 ∧ (255 : Int32) < c1) ∨ (¬ (255 : Int32) < c0 ∧ ¬ (255 : Int32) < c1 ∧ (255 : Int32) < c2)) (HC : own_ch c0 ∧ own_ch c1 ∧ own_ch c2)
    (Bd : BodyLoose p l y26 (head1 (Jvm.Cond.code y26 Gk 6 none :: ws) Qi4U3) Gk 6 none e s m #[(.ref a0), (.ref a1), (.int 0), (.int 3), .null] below meth c s₁) (hml : c.maxLocals = 6) (hZ : Z.Warmed39 s.vm) (Gb : n0 ≤ a0) (T0 : State) {locs : List Loc} (X0 : Stand p l e Qi4U3 s m #[(.ref a0), (.ref a1), (.int 0), (.int 3), .null] below meth c T0 locs 0 0) (e0 : T0.heap = h0) (SZ0 : n0 ≤ h0.size) (NF0 : Fr n0 locs) (KP0 : Keep h0 h0 [a0]) (Ga : Exa Z h0 a0 cS) (Gf : Fld Z h0 a0 cS "value" "[B" .null) (Gc : Fld Z h0 a0 cS "coder" "B" (.int 0)) (Ge : own_Pv Z h0 a1 (3 : Int32) [c0, c1, c2] .char) (J0 : own_J Z h0) :
    own_Go p e below s Qi4U3.cells Qi4U3.slots (Ri4U3 (fi4U3_0 c0 c1 c2)) (Ki4U3 Z c0 c1 c2 a0 a1 h0 n0 (fi4U3_0 c0 c1 c2)) (T0.setTop (mkF m 0 #[rv a0, rv a1, iv 0, iv 3, .val .null, uu] [])) := by
  have hx := Bd.exec
  have hby := Bd.bytes
  have hown : s.vm.findClass cS = some m.cls := findClass_of_methodNamed Bd.named
  have hnm := (name_of_methodNamed Bd.named Bd.method).1
  unfold fi4U3_0
  refine op T0 (mkF m 1 #[rv a0, rv a1, iv 0, iv 3, .val .null, uu] [(.ref a0)]) (fun _ k => XS.aloadN X0.here hx rfl (hb hby d2_0) rfl rfl k) ?_
  obtain ⟨T1, X1, e1, st'⟩ := initO X0 hx hZ hown (ow hw 12 rfl) (ow hw 13 rfl) (ow hw 14 rfl) e0 (g := (mkF m 1 #[rv a0, rv a1, iv 0, iv 3, .val .null, uu] [(.ref a0)])) rfl (by rw [hml]; rfl) rfl (hb hby d2_1) (by decide) (W := 0) (by show 2 * 0 + _ ≤ _; exact Nat.le_of_eq rfl) (by decide)
  refine op T1 (mkF m 5 #[rv a0, rv a1, iv 0, iv 3, .val .null, uu] [(.int 3)]) (fun _ k => st' _ (XS.iloadN X1.here hx rfl (hb hby d2_4) rfl k)) ?_
  have hc5 : ¬ ((3 : Int32) = (0 : Int32)) := (by decide)
  refine op T1 (mkF m 27 #[rv a0, rv a1, iv 0, iv 3, .val .null, uu] []) (fun _ k => XS.ifYes X1.here hx rfl (pc0 := 5) (pc' := 27) rfl (hb hby d2_5) rfl ((if0 _ _).trans (feq hc5).2) (by decide) (by decide) k) ?_
  obtain ⟨cs, sf, js⟩ := id J0
  obtain ⟨T2, X2, e2, st'⟩ := getS2 X1 hx hZ hown (host := "") (Or.inl (ow hw 32 rfl)) Via.refl e1 js.1 (g := (mkF m 27 #[rv a0, rv a1, iv 0, iv 3, .val .null, uu] [])) rfl (hb hby d2_27)
  refine op T2 (mkF m 30 #[rv a0, rv a1, iv 0, iv 3, .val .null, uu] [(.int cs)]) (fun _ k => st' _ k) ?_
  have hc30 : ¬ (cs = (0 : Int32)) := js.2.2.2.2.2.1
  refine op T2 (mkF m 36 #[rv a0, rv a1, iv 0, iv 3, .val .null, uu] [(.int 3), (.int 0), (.ref a1)]) (fun _ k => XS.ifNo X2.here hx rfl (hb hby d2_30) rfl ((if0 _ _).trans (feq hc30).1) (XS.aloadN X2.here hx rfl (hb hby d2_33) rfl rfl (XS.iloadN X2.here hx rfl (hb hby d2_34) rfl (XS.iloadN X2.here hx rfl (hb hby d2_35) rfl k)))) ?_
  obtain ⟨_, _, ⟨T3, L3, k3, n3⟩, -, X3', ⟨Lc3, hQ3, l3, y3, z3⟩, st'⟩ := Jvm.LawKit.callS X2 hx (y := y25) hown (mvT hZ (ow hw 33 rfl)) (mvT hZ (ow hw 34 rfl)) (mvT hZ (ow hw 35 rfl)) (mvT hZ (ow hw 36 rfl)) (by decide) (backOf (W := 0) (rmcpU3 l Z aw hw [] c0 c1 c2 a1 h0 n0 SZ0 Ge J0 HU HC) hZ (ow hw 36 rfl) (ow hw 35 rfl) (by decide) (by decide)) (g := (mkF m 36 #[rv a0, rv a1, iv 0, iv 3, .val .null, uu] [(.int 3), (.int 0), (.ref a1)])) rfl (by rw [hml]; rfl) (argsL := [(.ref a1), (.int 0), (.int 3)]) (rest := []) (lenOf own_pd15 rfl) rfl (by show 2 * 0 + _ ≤ _; exact Nat.le_of_eq rfl) (hb hby d2_36) (fun _ _ => ⟨rfl, e2, (by decide : 0 + 2 ≤ _), (by decide : 0 + 9 ≤ _)⟩)
  dsimp only [Pt.U, Pt.locs, Pt.cells, Pt.slots] at X3' l3 y3 z3 st' hQ3
  subst l3 y3 z3
  obtain ⟨b3_rb, rfl, NFq3, KPq3, sz3_rb, p3_0, p3_1⟩ := hQ3
  have X3 : Stand p l e Qi4U3 s m #[(.ref a0), (.ref a1), (.int 0), (.int 3), .null] below meth c T3 _ 2 9 := X3'
  have NF3 := Fr.app NF0 NFq3
  have SZ3 : n0 ≤ T3.heap.size := Nat.le_trans SZ0 KPq3.1
  have KP3 : Keep h0 T3.heap [a0] := KP0.trans KPq3 all0
  have Hx : n0 ≤ b3_rb := Nat.le_trans SZ0 sz3_rb
  have Hm : h0.size ≤ b3_rb := Nat.le_trans KP0.1 sz3_rb
  have Ha : a0 ≠ b3_rb := Nat.ne_of_lt (Nat.lt_of_lt_of_le Ga.lt sz3_rb)
  have Hy : a1 ≠ b3_rb := Nat.ne_of_lt (Nat.lt_of_lt_of_le Ge.lt sz3_rb)
  have f4 := Ga.keep KPq3
  have f5 := Gf.keep KPq3 nin0
  have f6 := Gc.keep KPq3 nin0
  have f7 := Ge.keep KPq3 nin0
  have f8 := own_J.keep J0 KPq3
  refine op T3 (mkF m 45 #[rv a0, rv a1, iv 0, iv 3, .val .null, rv b3_rb] [(.int 3), (.ref b3_rb), (.ref a0)]) (fun _ k => st' _ (XS.astore X3.here hx rfl (hb hby d2_39) rfl rfl (l' := #[rv a0, rv a1, iv 0, iv 3, .val .null, rv b3_rb]) rfl (XS.aloadN X3.here hx rfl (hb hby d2_41) rfl rfl (XS.aload X3.here hx rfl (hb hby d2_42) rfl rfl (XS.iloadN X3.here hx rfl (hb hby d2_44) rfl k))))) ?_
  obtain ⟨_, _, ⟨T9, L9, k9, n9⟩, -, X9', ⟨Lc9, hQ9, l9, y9, z9⟩, st'⟩ := Jvm.LawKit.callS X3 hx (y := y19) hown (mvT hZ (ow hw 40 rfl)) (mvT hZ (ow hw 41 rfl)) (mvT hZ (ow hw 35 rfl)) (mvT hZ (ow hw 42 rfl)) (by decide) (backOf (W := 1) (rmcfl l Z aw hw [] (3 : Int32) (6 : Int32) b3_rb T3.heap n0 SZ3 (own_Pv.be p3_0 (fun _ k => nomatch k))) hZ (ow hw 42 rfl) (ow hw 35 rfl) (by decide) (by decide)) (g := (mkF m 45 #[rv a0, rv a1, iv 0, iv 3, .val .null, rv b3_rb] [(.int 3), (.ref b3_rb), (.ref a0)])) rfl (by rw [hml]; rfl) (argsL := [(.ref b3_rb), (.int 3)]) (rest := [(.ref a0)]) (lenOf own_pd16 rfl) rfl (by show 2 * 0 + _ ≤ _; exact Nat.le_of_eq rfl) (hb hby d2_45) (fun _ _ => ⟨rfl, (rfl : T3.heap = T3.heap), (by decide : 2 + 0 ≤ _), (by decide : 9 + 0 ≤ _)⟩)
  dsimp only [Pt.U, Pt.locs, Pt.cells, Pt.slots] at X9' l9 y9 z9 st' hQ9
  subst l9 y9 z9
  obtain ⟨rfl, rfl, e9⟩ := hQ9
  have X9 : Stand p l e Qi4U3 s m #[(.ref a0), (.ref a1), (.int 0), (.int 3), .null] below meth c T9 _ 2 9 := own_locs X9'
  refine op T9 (mkF m 48 #[rv a0, rv a1, iv 0, iv 3, .val .null, rv b3_rb] [(.int 1), (.ref a0)]) (fun _ k => st' _ k) ?_
  obtain ⟨T10, h10, X10, e10, W10, st'⟩ := putFN X9 hx hZ hown (ow hw 22 rfl) Via.refl e9 f6 f4 (Or.inr ⟨(ow hw 18 rfl), rfl, hnm⟩) (ow hw 3 rfl) (ty := .byte) (v' := (.int 1)) (by decide) rfl (by decide) (g := (mkF m 48 #[rv a0, rv a1, iv 0, iv 3, .val .null, rv b3_rb] [(.int 1), (.ref a0)])) rfl rfl (hb hby d2_48)
  have f11 := f6.same W10
  have f12 := f4.wr W10
  have f13 := f5.other W10 (Or.inr (sn0 hw))
  have f14 := f7.other W10 (Ne.symm Gh)
  have f15 := p3_0.other W10 (Ne.symm Ha)
  have f16 := own_J.wr p3_1 W10
  have NF10 := Fr.snoc X10 NF3 Gb
  have SZ10 : n0 ≤ h10.size := (Nat.le_trans SZ3 (Keep.of_wr W10).1)
  have KP10 : Keep h0 h10 [a0] := KP3.wr W10 (Or.inl (List.mem_of_getElem? (i := 0) rfl))
  refine op T10 (mkF m 54 #[rv a0, rv a1, iv 0, iv 3, .val .null, rv b3_rb] [(.ref b3_rb), (.ref a0)]) (fun _ k => st' _ (XS.aloadN X10.here hx rfl (hb hby d2_51) rfl rfl (XS.aload X10.here hx rfl (hb hby d2_52) rfl rfl k))) ?_
  obtain ⟨T17, h17, X17, e17, W17, st'⟩ := putF X10 hx hZ hown (host := "") (Or.inl (ow hw 21 rfl)) Via.refl e10 f13 f12 (Or.inr ⟨(ow hw 17 rfl), rfl, hnm⟩) (ow hw 3 rfl) (ty := (.array .byte)) (by decide) rfl rfl (g := (mkF m 54 #[rv a0, rv a1, iv 0, iv 3, .val .null, rv b3_rb] [(.ref b3_rb), (.ref a0)])) rfl rfl (hb hby d2_54)
  have f18 := f13.same W17
  have f19 := f12.wr W17
  have f20 := f11.other W17 (Or.inr (sn1 hw))
  have f21 := f14.other W17 (Ne.symm Gh)
  have f22 := f15.other W17 (Ne.symm Ha)
  have f23 := own_J.wr f16 W17
  have NF17 := Fr.snoc X17 NF10 Gb
  have SZ17 : n0 ≤ h17.size := (Nat.le_trans SZ10 (Keep.of_wr W17).1)
  have KP17 : Keep h0 h17 [a0] := KP10.wr W17 (Or.inl (List.mem_of_getElem? (i := 0) rfl))
  refine op T17 (mkF m 57 #[rv a0, rv a1, iv 0, iv 3, .val .null, rv b3_rb] []) (fun _ k => st' _ k) ?_
  exact own_retV X17 hx Bd.notSynchronized Bd.returns (hb hby d2_57) (by rw [e17]; exact ⟨b3_rb, NF17, KP17, Hm, f19, f18, f20, f22, f23⟩) (by decide) (by decide)
theorem ef_i4U3 (m : MethodId) (a0 a1 : Addr) : entryFrame m #[(.ref a0), (.ref a1), (.int 0), (.int 3), .null] 6 = mkF m 0 #[rv a0, rv a1, iv 0, iv 3, .val .null, uu] [] := by first | (simp [entryFrame, mkF, argsToLocals, Value.category]; done) | rfl
set_option maxRecDepth 65536 in
set_option maxHeartbeats 40000000 in
theorem rmi4U3 (l : Launch) (Z : State) (aw : Array Value) (hw : HW aw Z) (ws : List Jvm.Cond) (c0 c1 c2 : Int32) (a0 a1 : Addr) (h0 : Heap) (n0 : Nat) (SZ0 : n0 ≤ h0.size) (Ga : Exa Z h0 a0 cS) (Gf : Fld Z h0 a0 cS "value" "[B" .null) (Gc : Fld Z h0 a0 cS "coder" "B" (.int 0)) (Ge : own_Pv Z h0 a1 (3 : Int32) [c0, c1, c2] .char) (J0 : own_J Z h0) (Gh : a0 ≠ a1) (HU : ((255 : Int32) < c0) ∨ (¬ (255 : Int32) < c0 ∧ (255 : Int32) < c1) ∨ (¬ (255 : Int32) < c0 ∧ ¬ (255 : Int32) < c1 ∧ (255 : Int32) < c2)) (HC : own_ch c0 ∧ own_ch c1 ∧ own_ch c2) (Gb : n0 ≤ a0) :
    MetFree l y26 (head1 (Jvm.Cond.code y26 Gk 6 none :: ws) Qi4U3) (fun a U => a = #[(.ref a0), (.ref a1), (.int 0), (.int 3), .null] ∧ Z.Warmed39 U.vm ∧ U.heap = h0) (fun _ _ _ _ _ => True) (fun _ U o U' => ∃ v L, o = .returned v ∧ own_Q (Ri4U3 (fi4U3_0 c0 c1 c2)) (Ki4U3 Z c0 c1 c2 a0 a1 h0 n0 (fi4U3_0 c0 c1 c2)) v U'.heap L ∧ FrameEnd U o U' L Qi4U3.cells Qi4U3.slots) := by
  refine MetFree.of_bodySF (plainFor_of_name own_pn3) hisR ?_
  intro p e s m args below meth c s₁ Bd hml0 hP hK
  obtain ⟨rfl, hZ, hh⟩ := hP
  have hml : c.maxLocals = 6 := hml0
  have e0 : s₁.heap = h0 := by rw [← hh, Bd.state]; rfl
  exact own_pre (fun t k => castTop (ef_i4U3 m a0 a1) k) (gi4U3_0 hw c0 c1 c2 a0 a1 Gh HU HC Bd hml hZ Gb s₁ (Stand.of_body Bd) e0 SZ0 (Fr.nil n0) (Keep.refl _ _) Ga Gf Gc Ge J0)
abbrev Qi1U3 : Room := { frames := 5, cells := 2, slots := 9, locals := 114 }
/-! body 1, i1U3 -/
def Ri1U3 (t : Unit) : Option Value := none
def Ki1U3 (Z : State) (c0 c1 c2 : Int32) (a0 a1 : Addr) (h0 : Heap) (n0 : Nat) (t : Unit) (h : Heap) (L : List Loc) : Prop := ∃ xb : Addr, Fr n0 L ∧ Keep h0 h [a0] ∧ h0.size ≤ xb ∧ Exa Z h a0 cS ∧ Fld Z h a0 cS "value" "[B" (.ref xb) ∧ Fld Z h a0 cS "coder" "B" (.int 1) ∧ own_Pv Z h xb (6 : Int32) [(own_lo c0), (own_hi c0), (own_lo c1), (own_hi c1), (own_lo c2), (own_hi c2)] .byte ∧ own_J Z h
def fi1U3_0 (c0 c1 c2 : Int32) : Unit := ()
set_option maxRecDepth 65536 in
set_option maxHeartbeats 40000000 in
theorem gi1U3_0 (hw : HW aw Z) {h0 : Heap} {n0 : Nat} (c0 c1 c2 : Int32) (a0 a1 : Addr) (Gh : a0 ≠ a1) (HU : ((255 : Int32) < c0) ∨ (¬ (255 : Int32) < c0 ∧ (255 : Int32) < c1) ∨ (¬ (255 : Int32) < c0 ∧ ¬ (255 : Int32) < c1 ∧ (255 : Int32) < c2)) (HC : own_ch c0 ∧ own_ch c1 ∧ own_ch c2)
    (Bd : BodyLoose p l y27 (head1 (Jvm.Cond.code y27 Gq 2 none :: ws) Qi1U3) Gq 2 none e s m #[(.ref a0), (.ref a1)] below meth c s₁) (hml : c.maxLocals = 2) (hZ : Z.Warmed39 s.vm) (Gb : n0 ≤ a0) (T0 : State) {locs : List Loc} (X0 : Stand p l e Qi1U3 s m #[(.ref a0), (.ref a1)] below meth c T0 locs 0 0) (e0 : T0.heap = h0) (SZ0 : n0 ≤ h0.size) (NF0 : Fr n0 locs) (KP0 : Keep h0 h0 [a0]) (Ga : Exa Z h0 a0 cS) (Gf : Fld Z h0 a0 cS "value" "[B" .null) (Gc : Fld Z h0 a0 cS "coder" "B" (.int 0)) (Ge : own_Pv Z h0 a1 (3 : Int32) [c0, c1, c2] .char) (J0 : own_J Z h0) :
    own_Go p e below s Qi1U3.cells Qi1U3.slots (Ri1U3 (fi1U3_0 c0 c1 c2)) (Ki1U3 Z c0 c1 c2 a0 a1 h0 n0 (fi1U3_0 c0 c1 c2)) (T0.setTop (mkF m 0 #[rv a0, rv a1] [])) := by
  have hx := Bd.exec
  have hby := Bd.bytes
  have hown : s.vm.findClass cS = some m.cls := findClass_of_methodNamed Bd.named
  have hnm := (name_of_methodNamed Bd.named Bd.method).1
  unfold fi1U3_0
  refine op T0 (mkF m 4 #[rv a0, rv a1] [(.ref a1), (.int 0), (.ref a1), (.ref a0)]) (fun _ k => XS.aloadN X0.here hx rfl (hb hby d1_0) rfl rfl (XS.aloadN X0.here hx rfl (hb hby d1_1) rfl rfl (XS.iconst X0.here hx rfl (hb hby d1_2) (XS.aloadN X0.here hx rfl (hb hby d1_3) rfl rfl k)))) ?_
  obtain ⟨k1, cl1, Ar1, q1, S1, N1, H1, G1⟩ := id Ge
  refine op T0 (mkF m 5 #[rv a0, rv a1] [(.int 3), (.int 0), (.ref a1), (.ref a0)]) (fun t k => X0.arraylength hx (by rw [e0]; exact Ar1.1) (State.isArrayOf_alike hZ.alike Ar1.2.1) (g := (mkF m 4 #[rv a0, rv a1] [(.ref a1), (.int 0), (.ref a1), (.ref a0)])) rfl rfl (hb hby d1_4) t (by rw [len_of S1 N1]; exact k)) ?_
  refine op T0 (mkF m 6 #[rv a0, rv a1] [.null, (.int 3), (.int 0), (.ref a1), (.ref a0)]) (fun _ k => XS.aconstNull X0.here hx rfl (hb hby d1_5) k) ?_
  obtain ⟨_, _, ⟨T2, L2, k2, n2⟩, -, X2', ⟨Lc2, hQ2, l2, y2, z2⟩, st'⟩ := X0.specialBack hx (y := y26) rfl hown (mvT hZ (ow hw 8 rfl)) (mvT hZ (ow hw 9 rfl)) (mvT hZ (ow hw 11 rfl)) (by decide) (backOf (W := 0) (rmi4U3 l Z aw hw [] c0 c1 c2 a0 a1 h0 n0 SZ0 Ga Gf Gc Ge J0 Gh HU HC Gb) hZ (ow hw 11 rfl) (ow hw 4 rfl) (by decide) (by decide)) (g := (mkF m 6 #[rv a0, rv a1] [.null, (.int 3), (.int 0), (.ref a1), (.ref a0)])) rfl (by rw [hml]; rfl) (Steps.refl _) (a := a0) (argsL := [(.ref a1), (.int 0), (.int 3), .null]) (rest := []) (lenOf own_pd17 rfl) rfl (by show 2 * 0 + _ ≤ _; exact Nat.le_of_eq rfl) (hb hby d1_6) (fun _ _ => ⟨rfl, e0, (by decide : 0 + 2 ≤ _), (by decide : 0 + 9 ≤ _)⟩)
  dsimp only [Pt.U, Pt.locs, Pt.cells, Pt.slots] at X2' l2 y2 z2 st' hQ2
  subst l2 y2 z2
  obtain ⟨rfl, b2_xb, NFq2, KPq2, sz2_xb, p2_0, p2_1, p2_2, p2_3, p2_4⟩ := hQ2
  have X2 : Stand p l e Qi1U3 s m #[(.ref a0), (.ref a1)] below meth c T2 _ 2 9 := X2'
  have NF2 := Fr.app NF0 NFq2
  have SZ2 : n0 ≤ T2.heap.size := Nat.le_trans SZ0 KPq2.1
  have KP2 : Keep h0 T2.heap [a0] := KP0.trans KPq2 (allS (Or.inl (List.mem_of_getElem? (i := 0) rfl)) all0)
  have Hz : n0 ≤ b2_xb := Nat.le_trans SZ0 sz2_xb
  have Hn : h0.size ≤ b2_xb := Nat.le_trans KP0.1 sz2_xb
  have J1 : a0 ≠ b2_xb := Nat.ne_of_lt (Nat.lt_of_lt_of_le Ga.lt sz2_xb)
  have J2 : a1 ≠ b2_xb := Nat.ne_of_lt (Nat.lt_of_lt_of_le Ge.lt sz2_xb)
  have f3 := Ga.keep KPq2
  have f4 := Ge.keep KPq2 (ninS (Ne.symm Gh) nin0)
  refine op T2 (mkF m 9 #[rv a0, rv a1] []) (fun _ k => st'.trans k) ?_
  exact own_retV X2 hx Bd.notSynchronized Bd.returns (hb hby d1_9) ⟨b2_xb, NF2, KP2, Hn, p2_0, p2_1, p2_2, p2_3, p2_4⟩ (by decide) (by decide)
theorem ef_i1U3 (m : MethodId) (a0 a1 : Addr) : entryFrame m #[(.ref a0), (.ref a1)] 2 = mkF m 0 #[rv a0, rv a1] [] := by first | (simp [entryFrame, mkF, argsToLocals, Value.category]; done) | rfl
set_option maxRecDepth 65536 in
set_option maxHeartbeats 40000000 in
theorem rmi1U3 (l : Launch) (Z : State) (aw : Array Value) (hw : HW aw Z) (ws : List Jvm.Cond) (c0 c1 c2 : Int32) (a0 a1 : Addr) (h0 : Heap) (n0 : Nat) (SZ0 : n0 ≤ h0.size) (Ga : Exa Z h0 a0 cS) (Gf : Fld Z h0 a0 cS "value" "[B" .null) (Gc : Fld Z h0 a0 cS "coder" "B" (.int 0)) (Ge : own_Pv Z h0 a1 (3 : Int32) [c0, c1, c2] .char) (J0 : own_J Z h0) (Gh : a0 ≠ a1) (HU : ((255 : Int32) < c0) ∨ (¬ (255 : Int32) < c0 ∧ (255 : Int32) < c1) ∨ (¬ (255 : Int32) < c0 ∧ ¬ (255 : Int32) < c1 ∧ (255 : Int32) < c2)) (HC : own_ch c0 ∧ own_ch c1 ∧ own_ch c2) (Gb : n0 ≤ a0) :
    MetFree l y27 (head1 (Jvm.Cond.code y27 Gq 2 none :: ws) Qi1U3) (fun a U => a = #[(.ref a0), (.ref a1)] ∧ Z.Warmed39 U.vm ∧ U.heap = h0) (fun _ _ _ _ _ => True) (fun _ U o U' => ∃ v L, o = .returned v ∧ own_Q (Ri1U3 (fi1U3_0 c0 c1 c2)) (Ki1U3 Z c0 c1 c2 a0 a1 h0 n0 (fi1U3_0 c0 c1 c2)) v U'.heap L ∧ FrameEnd U o U' L Qi1U3.cells Qi1U3.slots) := by
  refine MetFree.of_bodySF (plainFor_of_name own_pn3) hisR ?_
  intro p e s m args below meth c s₁ Bd hml0 hP hK
  obtain ⟨rfl, hZ, hh⟩ := hP
  have hml : c.maxLocals = 2 := hml0
  have e0 : s₁.heap = h0 := by rw [← hh, Bd.state]; rfl
  exact own_pre (fun t k => castTop (ef_i1U3 m a0 a1) k) (gi1U3_0 hw c0 c1 c2 a0 a1 Gh HU HC Bd hml hZ Gb s₁ (Stand.of_body Bd) e0 SZ0 (Fr.nil n0) (Keep.refl _ _) Ga Gf Gc Ge J0)
def own_S3 (Z : State) (h : Heap) (n0 : Nat) (a : Addr) (c0 c1 c2 : Int32) : Prop := (own_ch c0 ∧ own_ch c1 ∧ own_ch c2) ∧ ∃ b, Exa Z h a cS ∧ Fld Z h a cS "value" "[B" (.ref b) ∧ ((Fld Z h a cS "coder" "B" (.int 0) ∧ (¬ (255 : Int32) < c0 ∧ ¬ (255 : Int32) < c1 ∧ ¬ (255 : Int32) < c2) ∧ own_Pv Z h b (3 : Int32) [(own_by c0), (own_by c1), (own_by c2)] .byte) ∨ (Fld Z h a cS "coder" "B" (.int 1) ∧ own_Pv Z h b (6 : Int32) [(own_lo c0), (own_hi c0), (own_lo c1), (own_hi c1), (own_lo c2), (own_hi c2)] .byte))
theorem own_S3.exa {Z : State} {h : Heap} {n0 : Nat} {a : Addr} {c0 c1 c2 : Int32} (F : own_S3 Z h n0 a c0 c1 c2) : Exa Z h a cS := by obtain ⟨-, b, E, -⟩ := F; exact E
theorem own_S3.ext {Z : State} {h h' : Heap} {n0 : Nat} {a : Addr} {c0 c1 c2 : Int32} (F : own_S3 Z h n0 a c0 c1 c2) (E : Ext h h') : own_S3 Z h' n0 a c0 c1 c2 := by obtain ⟨q, b, x, y, ⟨u, v, w⟩ | ⟨u, w⟩⟩ := F; exact ⟨q, b, x.ext E, y.ext E, Or.inl ⟨u.ext E, v, w.ext E⟩⟩; exact ⟨q, b, x.ext E, y.ext E, Or.inr ⟨u.ext E, w.ext E⟩⟩
set_option maxRecDepth 65536 in
set_option maxHeartbeats 40000000 in
theorem rmsn3 (l : Launch) (Z : State) (aw : Array Value) (hw : HW aw Z) (ws : List Jvm.Cond) (c0 c1 c2 : Int32) (a0 a1 : Addr) (h0 : Heap) (n0 : Nat) (SZ0 : n0 ≤ h0.size) (Ga : Exa Z h0 a0 cS) (Gf : Fld Z h0 a0 cS "value" "[B" .null) (Gc : Fld Z h0 a0 cS "coder" "B" (.int 0)) (Ge : own_Pv Z h0 a1 (3 : Int32) [c0, c1, c2] .char) (J0 : own_J Z h0) (Gh : a0 ≠ a1) (HC : own_ch c0 ∧ own_ch c1 ∧ own_ch c2) (Gb : n0 ≤ a0) :
    MetFree l y27 (head1 (Jvm.Cond.code y27 Gq 2 none :: ws) Qi1U3) (fun a U => a = #[(.ref a0), (.ref a1)] ∧ Z.Warmed39 U.vm ∧ U.heap = h0) (fun _ _ _ _ _ => True) (fun _ U o U' => ∃ v L, o = .returned v ∧ own_Q (Ri1U3 ()) (fun h L => Fr n0 L ∧ Keep h0 h [a0] ∧ own_S3 Z h n0 a0 c0 c1 c2 ∧ own_J Z h) v U'.heap L ∧ FrameEnd U o U' L Qi1U3.cells Qi1U3.slots) := by
  by_cases HL : ¬ (255 : Int32) < c0 ∧ ¬ (255 : Int32) < c1 ∧ ¬ (255 : Int32) < c2
  · refine own_metR (rmi1L3 l Z aw hw ws c0 c1 c2 a0 a1 h0 n0 SZ0 Ga Gf Gc Ge J0 Gh HL.1 HL.2.1 HL.2.2 Gb) rfl ?_
    intro h L hk
    obtain ⟨xb, NF, KP, sz, e, f, g, q, j⟩ := hk
    exact ⟨NF, KP, ⟨HC, xb, e, f, Or.inl ⟨g, HL, q⟩⟩, j⟩
  · have HU : ((255 : Int32) < c0) ∨ (¬ (255 : Int32) < c0 ∧ (255 : Int32) < c1) ∨ (¬ (255 : Int32) < c0 ∧ ¬ (255 : Int32) < c1 ∧ (255 : Int32) < c2) := by
      by_cases k0 : (255 : Int32) < c0
      · exact Or.inl k0
      · by_cases k1 : (255 : Int32) < c1
        · exact Or.inr (Or.inl ⟨k0, k1⟩)
        · exact Or.inr (Or.inr ⟨k0, k1, Decidable.byContradiction fun k => HL ⟨k0, k1, k⟩⟩)
    refine own_metR (rmi1U3 l Z aw hw ws c0 c1 c2 a0 a1 h0 n0 SZ0 Ga Gf Gc Ge J0 Gh HU HC Gb) rfl ?_
    intro h L hk
    obtain ⟨xb, NF, KP, sz, e, f, g, q, j⟩ := hk
    exact ⟨NF, KP, ⟨HC, xb, e, f, Or.inr ⟨g, q⟩⟩, j⟩
set_option maxRecDepth 65536 in
set_option maxHeartbeats 40000000 in
theorem rmiew3 (l : Launch) (Z : State) (aw : Array Value) (hw : HW aw Z) (ws : List Jvm.Cond) (c0 c1 c2 : Int32) (a0 : Addr) (h0 : Heap) (n0 : Nat) (SZ0 : n0 ≤ h0.size) (W_a0 : own_S3 Z h0 n0 a0 c0 c1 c2) :
    MetFree l y10 (head1 (Jvm.Cond.code y10 Hc 1 (some .boolean) :: ws) Qie) (fun a U => a = #[(.ref a0)] ∧ Z.Warmed39 U.vm ∧ U.heap = h0) (fun _ _ _ _ _ => True) (fun _ U o U' => ∃ v L, o = .returned v ∧ own_Q (some (.int 0)) (own_K0 h0) v U'.heap L ∧ FrameEnd U o U' L Qie.cells Qie.slots) := by
  obtain ⟨hc, b, E, Fv, ⟨Fc, hl, P⟩ | ⟨Fc, P⟩⟩ := W_a0
  · exact own_metR (rmie l Z aw hw ws 3 a0 b h0 n0 SZ0 Fv (own_Pv.be P (fun _ k => nomatch k))) (congrArg (fun x => some (Value.int x)) (by decide : fie_0 3 = 0)) (fun _ _ q => q)
  · exact own_metR (rmie l Z aw hw ws 6 a0 b h0 n0 SZ0 Fv (own_Pv.be P (fun _ k => nomatch k))) (congrArg (fun x => some (Value.int x)) (by decide : fie_0 6 = 0)) (fun _ _ q => q)
set_option maxRecDepth 65536 in
set_option maxHeartbeats 40000000 in
theorem rmlenw3 (l : Launch) (Z : State) (aw : Array Value) (hw : HW aw Z) (ws : List Jvm.Cond) (c0 c1 c2 : Int32) (a0 : Addr) (h0 : Heap) (n0 : Nat) (SZ0 : n0 ≤ h0.size) (W_a0 : own_S3 Z h0 n0 a0 c0 c1 c2) (J0 : own_J Z h0) :
    MetFree l y9 (head1 (Jvm.Cond.code y9 Hi 1 (some .int) :: ws) Qlen) (fun a U => a = #[(.ref a0)] ∧ Z.Warmed39 U.vm ∧ U.heap = h0) (fun _ _ _ _ _ => True) (fun _ U o U' => ∃ v L, o = .returned v ∧ own_Q (some (.int 3)) (own_K0 h0) v U'.heap L ∧ FrameEnd U o U' L Qlen.cells Qlen.slots) := by
  obtain ⟨hc, b, E, Fv, ⟨Fc, hl, P⟩ | ⟨Fc, P⟩⟩ := W_a0
  · exact own_metR (rmlen l Z aw hw ws 3 0 a0 b h0 n0 SZ0 E Fv Fc (own_Pv.be P (fun _ k => nomatch k)) J0) (congrArg (fun x => some (Value.int x)) (by decide : flen_0 3 0 = 3)) (fun _ _ q => q)
  · exact own_metR (rmlen l Z aw hw ws 6 1 a0 b h0 n0 SZ0 E Fv Fc (own_Pv.be P (fun _ k => nomatch k)) J0) (congrArg (fun x => some (Value.int x)) (by decide : flen_0 6 1 = 3)) (fun _ _ q => q)
set_option maxRecDepth 65536 in
set_option maxHeartbeats 40000000 in
theorem rmchw30 (l : Launch) (Z : State) (aw : Array Value) (hw : HW aw Z) (ws : List Jvm.Cond) (c0 c1 c2 : Int32) (a0 : Addr) (h0 : Heap) (n0 : Nat) (SZ0 : n0 ≤ h0.size) (W_a0 : own_S3 Z h0 n0 a0 c0 c1 c2) (J0 : own_J Z h0) :
    MetFree l y11 (head1 (Jvm.Cond.code y11 Gy 2 (some .char) :: ws) Qch0) (fun a U => a = #[(.ref a0), (.int 0)] ∧ Z.Warmed39 U.vm ∧ U.heap = h0) (fun _ _ _ _ _ => True) (fun _ U o U' => ∃ v L, o = .returned v ∧ own_Q (some (.int c0)) (own_K0 h0) v U'.heap L ∧ FrameEnd U o U' L Qch0.cells Qch0.slots) := by
  obtain ⟨hc, b, E, Fv, ⟨Fc, hl, P⟩ | ⟨Fc, P⟩⟩ := W_a0
  · exact own_metR (rmch0 l Z aw hw ws 0 3 (own_by c0) a0 b h0 n0 SZ0 E Fv Fc (own_Pv.be P (by intro x hx; cases List.mem_singleton.mp hx; rfl)) J0 (by decide) (by decide)) (congrArg (fun x => some (Value.int x)) (own_ch0E _ _ hc.1 hl.1)) (fun _ _ q => q)
  · exact own_metR (rmch1 l Z aw hw ws 0 6 (own_lo c0) (own_hi c0) a0 b h0 n0 SZ0 E Fv Fc (own_Pv.be P (by intro x hx; simp only [List.mem_cons, List.not_mem_nil, or_false] at hx; rcases hx with rfl | rfl <;> rfl)) J0 (by decide) (by decide) (by decide) (by decide) (by decide) (by decide)) (congrArg (fun x => some (Value.int x)) (own_ch1E _ _ hc.1)) (fun _ _ q => q)
set_option maxRecDepth 65536 in
set_option maxHeartbeats 40000000 in
theorem rmchw31 (l : Launch) (Z : State) (aw : Array Value) (hw : HW aw Z) (ws : List Jvm.Cond) (c0 c1 c2 : Int32) (a0 : Addr) (h0 : Heap) (n0 : Nat) (SZ0 : n0 ≤ h0.size) (W_a0 : own_S3 Z h0 n0 a0 c0 c1 c2) (J0 : own_J Z h0) :
    MetFree l y11 (head1 (Jvm.Cond.code y11 Gy 2 (some .char) :: ws) Qch0) (fun a U => a = #[(.ref a0), (.int 1)] ∧ Z.Warmed39 U.vm ∧ U.heap = h0) (fun _ _ _ _ _ => True) (fun _ U o U' => ∃ v L, o = .returned v ∧ own_Q (some (.int c1)) (own_K0 h0) v U'.heap L ∧ FrameEnd U o U' L Qch0.cells Qch0.slots) := by
  obtain ⟨hc, b, E, Fv, ⟨Fc, hl, P⟩ | ⟨Fc, P⟩⟩ := W_a0
  · exact own_metR (rmch0 l Z aw hw ws 1 3 (own_by c1) a0 b h0 n0 SZ0 E Fv Fc (own_Pv.be P (by intro x hx; cases List.mem_singleton.mp hx; rfl)) J0 (by decide) (by decide)) (congrArg (fun x => some (Value.int x)) (own_ch0E _ _ hc.2.1 hl.2.1)) (fun _ _ q => q)
  · exact own_metR (rmch1 l Z aw hw ws 1 6 (own_lo c1) (own_hi c1) a0 b h0 n0 SZ0 E Fv Fc (own_Pv.be P (by intro x hx; simp only [List.mem_cons, List.not_mem_nil, or_false] at hx; rcases hx with rfl | rfl <;> rfl)) J0 (by decide) (by decide) (by decide) (by decide) (by decide) (by decide)) (congrArg (fun x => some (Value.int x)) (own_ch1E _ _ hc.2.1)) (fun _ _ q => q)
set_option maxRecDepth 65536 in
set_option maxHeartbeats 40000000 in
theorem rmchw32 (l : Launch) (Z : State) (aw : Array Value) (hw : HW aw Z) (ws : List Jvm.Cond) (c0 c1 c2 : Int32) (a0 : Addr) (h0 : Heap) (n0 : Nat) (SZ0 : n0 ≤ h0.size) (W_a0 : own_S3 Z h0 n0 a0 c0 c1 c2) (J0 : own_J Z h0) :
    MetFree l y11 (head1 (Jvm.Cond.code y11 Gy 2 (some .char) :: ws) Qch0) (fun a U => a = #[(.ref a0), (.int 2)] ∧ Z.Warmed39 U.vm ∧ U.heap = h0) (fun _ _ _ _ _ => True) (fun _ U o U' => ∃ v L, o = .returned v ∧ own_Q (some (.int c2)) (own_K0 h0) v U'.heap L ∧ FrameEnd U o U' L Qch0.cells Qch0.slots) := by
  obtain ⟨hc, b, E, Fv, ⟨Fc, hl, P⟩ | ⟨Fc, P⟩⟩ := W_a0
  · exact own_metR (rmch0 l Z aw hw ws 2 3 (own_by c2) a0 b h0 n0 SZ0 E Fv Fc (own_Pv.be P (by intro x hx; cases List.mem_singleton.mp hx; rfl)) J0 (by decide) (by decide)) (congrArg (fun x => some (Value.int x)) (own_ch0E _ _ hc.2.2 hl.2.2)) (fun _ _ q => q)
  · exact own_metR (rmch1 l Z aw hw ws 2 6 (own_lo c2) (own_hi c2) a0 b h0 n0 SZ0 E Fv Fc (own_Pv.be P (by intro x hx; simp only [List.mem_cons, List.not_mem_nil, or_false] at hx; rcases hx with rfl | rfl <;> rfl)) J0 (by decide) (by decide) (by decide) (by decide) (by decide) (by decide)) (congrArg (fun x => some (Value.int x)) (own_ch1E _ _ hc.2.2)) (fun _ _ q => q)
theorem own_wS {Z : State} {aw : Array Value} (hw : HW aw Z) : ∀ a ∈ Bundle.stringAtoms, a.before aw Z = true := fun d hd => by
  simp only [Bundle.stringAtoms, Bundle.sN, List.mem_cons, List.not_mem_nil, or_false] at hd
  rcases hd with rfl | rfl | rfl | rfl | rfl | rfl | rfl
  · exact (ow hw 4 rfl)
  · exact (ow hw 3 rfl)
  · exact (ow hw 16 rfl)
  · exact (ow hw 17 rfl)
  · exact (ow hw 18 rfl)
  · exact (ow hw 19 rfl)
  · exact (ow hw 20 rfl)
theorem own_EW {Z : State} {aw : Array Value} (hw : HW aw Z) : EW Z aw consts_1 := EW.cons (ow hw 79 rfl) (by decide) (EW.cons (ow hw 15 rfl) (by decide) EW.nil)
theorem own_FldNe {Z : State} {h : Heap} {a x b : Addr} {C n d : String} (F : Fld Z h a C n d (.ref b)) (G : Fld Z h x C n d .null) : a ≠ x := by
  rintro rfl
  obtain ⟨c1, cf1, k1, i1, f1, p1, p2, p3, p4, p5, p6, p7⟩ := F
  obtain ⟨c2, cf2, k2, i2, f2, q1, q2, q3, q4, q5, q6, q7⟩ := G
  cases p1.symm.trans q1
  cases p2.symm.trans q2
  cases p7.symm.trans q7
theorem own_PvNe {Z : State} {h : Heap} {x b : Addr} {C n d : String} {v : Value} {ty : FieldType} (P : own_Pv Z h b 0 [] ty) (G : Fld Z h x C n d v) : b ≠ x := by
  rintro rfl
  obtain ⟨k, c, A, -, S, -⟩ := P
  obtain ⟨c2, cf2, k2, i2, f2, q1, q2, q3, q4, q5, q6, q7⟩ := G
  cases A.1.symm.trans q1
  rw [Array.getElem?_eq_none (by rw [S]; exact Nat.zero_le _)] at q7
  cases q7
def own_S0 (Z : State) (h : Heap) (n0 : Nat) (a : Addr) : Prop := ∃ b, Exa Z h a cS ∧ Fld Z h a cS "value" "[B" (.ref b) ∧ own_Be Z h b 0 []
theorem own_S0.exa {Z : State} {h : Heap} {n0 : Nat} {a : Addr} (F : own_S0 Z h n0 a) : Exa Z h a cS := by obtain ⟨b, E, -⟩ := F; exact E
abbrev Qsi0 : Room := { frames := 1, cells := 2, slots := 4, locals := 20 }
/-! body 2, si0 -/
theorem d2_8 : De Gk 8 (.aload_n 0) 1 := by decide +kernel
theorem d2_9 : De Gk 9 (.ldc 7) 2 := by decide +kernel
theorem d2_11 : De Gk 11 (.getfield 9) 3 := by decide +kernel
theorem d2_14 : De Gk 14 (.putfield 9) 3 := by decide +kernel
theorem d2_17 : De Gk 17 (.aload_n 0) 1 := by decide +kernel
theorem d2_18 : De Gk 18 (.ldc 7) 2 := by decide +kernel
theorem d2_20 : De Gk 20 (.getfield 15) 3 := by decide +kernel
theorem d2_23 : De Gk 23 (.putfield 15) 3 := by decide +kernel
theorem d2_26 : De Gk 26 (.return_) 1 := by decide +kernel
def Rsi0 (t : Unit) : Option Value := none
def Ksi0 (Z : State)  (a0 a1 : Addr) (h0 : Heap) (n0 : Nat) (t : Unit) (h : Heap) (L : List Loc) : Prop := Fr n0 L ∧ Keep h0 h [a0] ∧ own_S0 Z h n0 a0  ∧ own_J Z h
def fsi0_0  : Unit := ()
set_option maxRecDepth 65536 in
set_option maxHeartbeats 40000000 in
theorem gsi0_0 (hw : HW aw Z) {h0 : Heap} {n0 : Nat}  (a0 a1 : Addr)
    (Bd : BodyLoose p l y26 (head1 (Jvm.Cond.code y26 Gk 6 none :: ws) Qsi0) Gk 6 none e s m #[(.ref a0), (.ref a1), (.int 0), (.int 0), .null] below meth c s₁) (hml : c.maxLocals = 6) {vm0 : Vm} {k0 : Nat} (hZ : Z.Warmed39 vm0) (hown : vm0.findClass cS = some m.cls) (hS : s.Since vm0 k0) (Gb : n0 ≤ a0) (T0 : State) {locs : List Loc} (X0 : Stand p l e Qsi0 (s.setVm vm0) m #[(.ref a0), (.ref a1), (.int 0), (.int 0), .null] below meth c T0 locs 0 0) (e0 : T0.heap = h0) (hk : k0 ≤ h0.size) (C0 : CHv Z consts_1 vm0 h0) (SZ0 : n0 ≤ h0.size) (NF0 : Fr n0 locs) (KP0 : Keep h0 h0 [a0]) (Ga : Exa Z h0 a0 cS) (Gf : Fld Z h0 a0 cS "value" "[B" .null) (Gc : Fld Z h0 a0 cS "coder" "B" (.int 0)) (J0 : own_J Z h0) :
    own_GoW p e below s Qsi0.cells Qsi0.slots (Rsi0 (fsi0_0 )) (Ksi0 Z  a0 a1 h0 n0 (fsi0_0 )) (T0.setTop (mkF m 0 #[rv a0, rv a1, iv 0, iv 0, .val .null, uu] [])) := by
  have hx := Bd.exec
  have hby := Bd.bytes
  have hnm := (name_of_methodNamed Bd.named Bd.method).1
  unfold fsi0_0
  refine opW T0 (mkF m 1 #[rv a0, rv a1, iv 0, iv 0, .val .null, uu] [(.ref a0)]) (fun _ k => XS.aloadN X0.here hx rfl (hb hby d2_0) rfl rfl k) ?_
  obtain ⟨T1, X1, e1, st'⟩ := initO X0 hx hZ hown (ow hw 12 rfl) (ow hw 13 rfl) (ow hw 14 rfl) e0 (g := (mkF m 1 #[rv a0, rv a1, iv 0, iv 0, .val .null, uu] [(.ref a0)])) rfl (by rw [hml]; rfl) rfl (hb hby d2_1) (by decide) (W := 0) (by show 2 * 0 + _ ≤ _; exact Nat.le_of_eq rfl) (by decide)
  refine opW T1 (mkF m 5 #[rv a0, rv a1, iv 0, iv 0, .val .null, uu] [(.int 0)]) (fun _ k => st' _ (XS.iloadN X1.here hx rfl (hb hby d2_4) rfl k)) ?_
  have hc5 : (0 : Int32) = (0 : Int32) := rfl
  refine opW T1 (mkF m 9 #[rv a0, rv a1, iv 0, iv 0, .val .null, uu] [(.ref a0)]) (fun _ k => XS.ifNo X1.here hx rfl (hb hby d2_5) rfl ((if0 _ _).trans (teq hc5).2) (XS.aloadN X1.here hx rfl (hb hby d2_8) rfl rfl k)) ?_
  obtain ⟨a2, T2, h2, kk2, b2, kb2, X2, e2, E2, hS, hk, hZ, hown, EX2, FC2, FV2, AB2, -, -, CR2, LT2, -, st'⟩ := ldcCH X1 hx hZ hown (ow hw 15 rfl) (own_wS hw) e1 hS (Nat.le_trans hk KP0.1) (own_EW hw) (List.mem_of_getElem? (i := 1) rfl) C0 (vs := [].map Value.int) (z := 0) ⟨by decide, by decide⟩ (by decide) (by decide) (g := (mkF m 9 #[rv a0, rv a1, iv 0, iv 0, .val .null, uu] [(.ref a0)])) rfl (hb hby d2_9) (n := 0) (by decide) (by decide) (by decide) (by decide)
  have SZ2 : n0 ≤ h2.size := Nat.le_trans SZ0 E2.1
  have KP2 := KP0.ext E2
  have Cx2 := CR2.1
  have f3 := Ga.ext E2
  have f4 := Gf.ext E2
  have f5 := Gc.ext E2
  have f6 := own_J.ext J0 E2
  have f7 : own_Pv Z h2 b2 (0 : Int32) [] .byte := ⟨_, AB2⟩
  have na2 : a2 ≠ a0 := own_FldNe FV2 f4
  have nb2 : b2 ≠ a0 := own_PvNe f7 f4
  refine opW T2 (mkF m 11 #[rv a0, rv a1, iv 0, iv 0, .val .null, uu] [(.ref a2), (.ref a0)]) (fun _ k => st' _ k) ?_
  obtain ⟨T8, X8, e8, st'⟩ := getF X2 hx hZ hown (host := "") (Or.inl (ow hw 21 rfl)) Via.refl e2 FV2 (g := (mkF m 11 #[rv a0, rv a1, iv 0, iv 0, .val .null, uu] [(.ref a2), (.ref a0)])) rfl rfl (hb hby d2_11)
  refine opW T8 (mkF m 14 #[rv a0, rv a1, iv 0, iv 0, .val .null, uu] [(.ref b2), (.ref a0)]) (fun _ k => st' _ k) ?_
  obtain ⟨T9, h9, X9, e9, W9, st'⟩ := putF X8 hx hZ hown (host := "") (Or.inl (ow hw 21 rfl)) Via.refl e8 f4 f3 (Or.inr ⟨(ow hw 17 rfl), rfl, hnm⟩) (ow hw 3 rfl) (ty := (.array .byte)) (by decide) rfl rfl (g := (mkF m 14 #[rv a0, rv a1, iv 0, iv 0, .val .null, uu] [(.ref b2), (.ref a0)])) rfl rfl (hb hby d2_14)
  have f10 := f4.same W9
  have f11 := f3.wr W9
  have f12 := f5.other W9 (Or.inr (sn1 hw))
  have f13 := EX2.wr W9
  have f14 := FC2.other W9 (Or.inl na2)
  have f15 := FV2.other W9 (Or.inl na2)
  have f16 := f7.other W9 nb2
  have f17 := own_J.wr f6 W9
  have NF9 := Fr.snoc X9 NF0 Gb
  have SZ9 : n0 ≤ h9.size := (Nat.le_trans SZ2 (Keep.of_wr W9).1)
  have KP9 : Keep h0 h9 [a0] := KP2.wr W9 (Or.inl (List.mem_of_getElem? (i := 0) rfl))
  have hk := Nat.le_trans hk (Keep.of_wr W9).1
  refine opW T9 (mkF m 18 #[rv a0, rv a1, iv 0, iv 0, .val .null, uu] [(.ref a0)]) (fun _ k => st' _ (XS.aloadN X9.here hx rfl (hb hby d2_17) rfl rfl k)) ?_
  refine opW T9 (mkF m 20 #[rv a0, rv a1, iv 0, iv 0, .val .null, uu] [(.ref a2), (.ref a0)]) (fun _ k => ldcAgain X9 hx hZ hown (ow hw 15 rfl) LT2 (g := (mkF m 18 #[rv a0, rv a1, iv 0, iv 0, .val .null, uu] [(.ref a0)])) rfl (hb hby d2_18) _ k) ?_
  obtain ⟨T19, X19, e19, st'⟩ := getF X9 hx hZ hown (host := "") (Or.inl (ow hw 22 rfl)) Via.refl e9 f14 (g := (mkF m 20 #[rv a0, rv a1, iv 0, iv 0, .val .null, uu] [(.ref a2), (.ref a0)])) rfl rfl (hb hby d2_20)
  refine opW T19 (mkF m 23 #[rv a0, rv a1, iv 0, iv 0, .val .null, uu] [(.int 0), (.ref a0)]) (fun _ k => st' _ k) ?_
  obtain ⟨T20, h20, X20, e20, W20, st'⟩ := putFN X19 hx hZ hown (ow hw 22 rfl) Via.refl e19 f12 f11 (Or.inr ⟨(ow hw 18 rfl), rfl, hnm⟩) (ow hw 3 rfl) (ty := .byte) (v' := (.int 0)) (by decide) rfl (by decide) (g := (mkF m 23 #[rv a0, rv a1, iv 0, iv 0, .val .null, uu] [(.int 0), (.ref a0)])) rfl rfl (hb hby d2_23)
  have f21 := f12.same W20
  have f22 := f11.wr W20
  have f23 := f10.other W20 (Or.inr (sn0 hw))
  have f24 := f13.wr W20
  have f25 := f14.other W20 (Or.inl na2)
  have f26 := f15.other W20 (Or.inl na2)
  have f27 := f16.other W20 nb2
  have f28 := own_J.wr f17 W20
  have NF20 := Fr.snoc X20 NF9 Gb
  have SZ20 : n0 ≤ h20.size := (Nat.le_trans SZ9 (Keep.of_wr W20).1)
  have KP20 : Keep h0 h20 [a0] := KP9.wr W20 (Or.inl (List.mem_of_getElem? (i := 0) rfl))
  have hk := Nat.le_trans hk (Keep.of_wr W20).1
  refine opW T20 (mkF m 26 #[rv a0, rv a1, iv 0, iv 0, .val .null, uu] []) (fun _ k => st' _ k) ?_
  have Wx : own_S0 Z h20 n0 a0 := ⟨_, f22, f23, own_Pv.be f27 (fun _ k => nomatch k)⟩
  exact own_retVW hS (by rw [e20]; exact hk) X20 hx Bd.notSynchronized Bd.returns (hb hby d2_26) (by rw [e20]; exact ⟨NF20, KP20, Wx, f28⟩) (by decide) (by decide)
theorem ef_si0 (m : MethodId) (a0 a1 : Addr) : entryFrame m #[(.ref a0), (.ref a1), (.int 0), (.int 0), .null] 6 = mkF m 0 #[rv a0, rv a1, iv 0, iv 0, .val .null, uu] [] := by first | (simp [entryFrame, mkF, argsToLocals, Value.category]; done) | rfl
set_option maxRecDepth 65536 in
set_option maxHeartbeats 40000000 in
theorem rmsi0 (l : Launch) (Z : State) (aw : Array Value) (hw : HW aw Z) (ws : List Jvm.Cond)  (a0 a1 : Addr) (h0 : Heap) (n0 : Nat) (SZ0 : n0 ≤ h0.size) (Ga : Exa Z h0 a0 cS) (Gf : Fld Z h0 a0 cS "value" "[B" .null) (Gc : Fld Z h0 a0 cS "coder" "B" (.int 0)) (J0 : own_J Z h0) (Gb : n0 ≤ a0) :
    MetFree l y26 (head1 (Jvm.Cond.code y26 Gk 6 none :: ws) Qsi0) (fun a U => a = #[(.ref a0), (.ref a1), (.int 0), (.int 0), .null] ∧ Z.Warmed39 U.vm ∧ U.heap = h0 ∧ CHv Z consts_1 U.vm h0) (fun _ _ _ _ _ => True) (fun _ U o U' => ∃ v L, o = .returned v ∧ own_Q (Rsi0 (fsi0_0 )) (Ksi0 Z  a0 a1 h0 n0 (fsi0_0 )) v U'.heap L ∧ ReturnedEndW U o U' L Qsi0.cells Qsi0.slots) := by
  refine MetFree.of_bodySF (plainFor_of_name own_pn3) hisR ?_
  intro p e s m args below meth c s₁ Bd hml0 hP hK
  obtain ⟨rfl, hZ, hh, HC⟩ := hP
  have hown := findClass_of_methodNamed Bd.named
  have hS : s.Since s.vm 0 := (State.WarmedH.refl s).since 0
  have hml : c.maxLocals = 6 := hml0
  have e0 : s₁.heap = h0 := by rw [← hh, Bd.state]; rfl
  exact own_preW (fun t k => castTop (ef_si0 m a0 a1) k) (gsi0_0 hw  a0 a1 Bd hml hZ hown hS Gb s₁ (Stand.of_body Bd) e0 (Nat.zero_le _) HC SZ0 (Fr.nil n0) (Keep.refl _ _) Ga Gf Gc J0)
abbrev Qs0 : Room := { frames := 2, cells := 2, slots := 4, locals := 45 }
/-! body 1, s0 -/
def Rs0 (t : Unit) : Option Value := none
def Ks0 (Z : State)  (a0 a1 : Addr) (h0 : Heap) (n0 : Nat) (t : Unit) (h : Heap) (L : List Loc) : Prop := Fr n0 L ∧ Keep h0 h [a0] ∧ own_S0 Z h n0 a0  ∧ own_J Z h
def fs0_0  : Unit := ()
set_option maxRecDepth 65536 in
set_option maxHeartbeats 40000000 in
theorem gs0_0 (hw : HW aw Z) {h0 : Heap} {n0 : Nat}  (a0 a1 : Addr)
    (Bd : BodyLoose p l y27 (head1 (Jvm.Cond.code y27 Gq 2 none :: ws) Qs0) Gq 2 none e s m #[(.ref a0), (.ref a1)] below meth c s₁) (hml : c.maxLocals = 2) {vm0 : Vm} {k0 : Nat} (hZ : Z.Warmed39 vm0) (hown : vm0.findClass cS = some m.cls) (hS : s.Since vm0 k0) (Gb : n0 ≤ a0) (T0 : State) {locs : List Loc} (X0 : Stand p l e Qs0 (s.setVm vm0) m #[(.ref a0), (.ref a1)] below meth c T0 locs 0 0) (e0 : T0.heap = h0) (hk : k0 ≤ h0.size) (C0 : CHv Z consts_1 vm0 h0) (SZ0 : n0 ≤ h0.size) (NF0 : Fr n0 locs) (KP0 : Keep h0 h0 [a0]) (Ga : Exa Z h0 a0 cS) (Gf : Fld Z h0 a0 cS "value" "[B" .null) (Gc : Fld Z h0 a0 cS "coder" "B" (.int 0)) (Ge : own_Pv Z h0 a1 (0 : Int32) [] .char) (J0 : own_J Z h0) :
    own_GoW p e below s Qs0.cells Qs0.slots (Rs0 (fs0_0 )) (Ks0 Z  a0 a1 h0 n0 (fs0_0 )) (T0.setTop (mkF m 0 #[rv a0, rv a1] [])) := by
  have hx := Bd.exec
  have hby := Bd.bytes
  have hnm := (name_of_methodNamed Bd.named Bd.method).1
  unfold fs0_0
  refine opW T0 (mkF m 4 #[rv a0, rv a1] [(.ref a1), (.int 0), (.ref a1), (.ref a0)]) (fun _ k => XS.aloadN X0.here hx rfl (hb hby d1_0) rfl rfl (XS.aloadN X0.here hx rfl (hb hby d1_1) rfl rfl (XS.iconst X0.here hx rfl (hb hby d1_2) (XS.aloadN X0.here hx rfl (hb hby d1_3) rfl rfl k)))) ?_
  obtain ⟨k1, cl1, Ar1, q1, S1, N1, H1, G1⟩ := id Ge
  refine opW T0 (mkF m 5 #[rv a0, rv a1] [(.int 0), (.int 0), (.ref a1), (.ref a0)]) (fun t k => X0.arraylength hx (by rw [e0]; exact Ar1.1) (State.isArrayOf_alike hZ.alike Ar1.2.1) (g := (mkF m 4 #[rv a0, rv a1] [(.ref a1), (.int 0), (.ref a1), (.ref a0)])) rfl rfl (hb hby d1_4) t (by rw [len_of S1 N1]; exact k)) ?_
  refine opW T0 (mkF m 6 #[rv a0, rv a1] [.null, (.int 0), (.int 0), (.ref a1), (.ref a0)]) (fun _ k => XS.aconstNull X0.here hx rfl (hb hby d1_5) k) ?_
  obtain ⟨_, _, ⟨T2, L2, k2, n2⟩, -, X2, hSq2, hgr2, ⟨Lc2, hQ2, l2, y2, z2⟩, st'⟩ := X0.specialBackS hx (y := y26) rfl hown (mvT hZ (ow hw 8 rfl)) (mvT hZ (ow hw 9 rfl)) (mvT hZ (ow hw 11 rfl)) (by decide) (own_backS (W := 0) (rmsi0 l Z aw hw []  a0 a1 h0 n0 SZ0 Ga Gf Gc J0 Gb) hZ (ow hw 11 rfl) (ow hw 4 rfl) (by decide) (by decide) (own_EW hw) C0) (g := (mkF m 6 #[rv a0, rv a1] [.null, (.int 0), (.int 0), (.ref a1), (.ref a0)])) rfl (by rw [hml]; rfl) (Steps.refl _) (a := a0) (argsL := [(.ref a1), (.int 0), (.int 0), .null]) (rest := []) (lenOf own_pd17 rfl) rfl (by show 2 * 0 + _ ≤ _; exact Nat.le_of_eq rfl) (hb hby d1_6) (fun _ _ => ⟨rfl, e0, (by decide : 0 + 2 ≤ _), (by decide : 0 + 4 ≤ _)⟩)
  dsimp only [Pt.U, Pt.locs, Pt.cells, Pt.slots] at X2 hSq2 hgr2 l2 y2 z2 st' hQ2
  subst l2 y2 z2
  obtain ⟨rfl, NFq2, KPq2, p2_0, p2_1⟩ := hQ2
  have hS := hS.trans hSq2 (Nat.le_trans (Nat.le_trans hk KP0.1) (by rw [← e0]; exact hgr2))
  have hk := Nat.le_refl T2.heap.size
  have hZ : Z.Warmed39 T2.vm := State.Warmed39.trans (t := s.setVm _) hZ hSq2.1
  have hown : T2.vm.findClass cS = some m.cls := by rw [hSq2.1.alike.findClass]; exact hown
  have X2 : Stand p l e Qs0 (s.setVm T2.vm) m #[(.ref a0), (.ref a1)] below meth c T2 _ 2 4 := X2
  have NF2 := Fr.app NF0 NFq2
  have SZ2 : n0 ≤ T2.heap.size := Nat.le_trans SZ0 KPq2.1
  have KP2 : Keep h0 T2.heap [a0] := KP0.trans KPq2 (allS (Or.inl (List.mem_of_getElem? (i := 0) rfl)) all0)
  refine opW T2 (mkF m 9 #[rv a0, rv a1] []) (fun _ k => st'.trans k) ?_
  exact own_retVW hS hk X2 hx Bd.notSynchronized Bd.returns (hb hby d1_9) ⟨NF2, KP2, p2_0, p2_1⟩ (by decide) (by decide)
theorem ef_s0 (m : MethodId) (a0 a1 : Addr) : entryFrame m #[(.ref a0), (.ref a1)] 2 = mkF m 0 #[rv a0, rv a1] [] := by first | (simp [entryFrame, mkF, argsToLocals, Value.category]; done) | rfl
set_option maxRecDepth 65536 in
set_option maxHeartbeats 40000000 in
theorem rms0 (l : Launch) (Z : State) (aw : Array Value) (hw : HW aw Z) (ws : List Jvm.Cond)  (a0 a1 : Addr) (h0 : Heap) (n0 : Nat) (SZ0 : n0 ≤ h0.size) (Ga : Exa Z h0 a0 cS) (Gf : Fld Z h0 a0 cS "value" "[B" .null) (Gc : Fld Z h0 a0 cS "coder" "B" (.int 0)) (Ge : own_Pv Z h0 a1 (0 : Int32) [] .char) (J0 : own_J Z h0) (Gb : n0 ≤ a0) :
    MetFree l y27 (head1 (Jvm.Cond.code y27 Gq 2 none :: ws) Qs0) (fun a U => a = #[(.ref a0), (.ref a1)] ∧ Z.Warmed39 U.vm ∧ U.heap = h0 ∧ CHv Z consts_1 U.vm h0) (fun _ _ _ _ _ => True) (fun _ U o U' => ∃ v L, o = .returned v ∧ own_Q (Rs0 (fs0_0 )) (Ks0 Z  a0 a1 h0 n0 (fs0_0 )) v U'.heap L ∧ ReturnedEndW U o U' L Qs0.cells Qs0.slots) := by
  refine MetFree.of_bodySF (plainFor_of_name own_pn3) hisR ?_
  intro p e s m args below meth c s₁ Bd hml0 hP hK
  obtain ⟨rfl, hZ, hh, HC⟩ := hP
  have hown := findClass_of_methodNamed Bd.named
  have hS : s.Since s.vm 0 := (State.WarmedH.refl s).since 0
  have hml : c.maxLocals = 2 := hml0
  have e0 : s₁.heap = h0 := by rw [← hh, Bd.state]; rfl
  exact own_preW (fun t k => castTop (ef_s0 m a0 a1) k) (gs0_0 hw  a0 a1 Bd hml hZ hown hS Gb s₁ (Stand.of_body Bd) e0 (Nat.zero_le _) HC SZ0 (Fr.nil n0) (Keep.refl _ _) Ga Gf Gc Ge J0)
set_option maxRecDepth 65536 in
set_option maxHeartbeats 40000000 in
theorem rmiew0 (l : Launch) (Z : State) (aw : Array Value) (hw : HW aw Z) (ws : List Jvm.Cond)  (a0 : Addr) (h0 : Heap) (n0 : Nat) (SZ0 : n0 ≤ h0.size) (W_a0 : own_S0 Z h0 n0 a0) :
    MetFree l y10 (head1 (Jvm.Cond.code y10 Hc 1 (some .boolean) :: ws) Qie) (fun a U => a = #[(.ref a0)] ∧ Z.Warmed39 U.vm ∧ U.heap = h0) (fun _ _ _ _ _ => True) (fun _ U o U' => ∃ v L, o = .returned v ∧ own_Q (some (.int 1)) (own_K0 h0) v U'.heap L ∧ FrameEnd U o U' L Qie.cells Qie.slots) := by
  obtain ⟨b, E, Fv, B⟩ := W_a0
  exact own_metR (rmie l Z aw hw ws 0 a0 b h0 n0 SZ0 Fv B) (congrArg (fun x => some (Value.int x)) (by decide : fie_0 0 = 1)) (fun _ _ q => q)
abbrev Qt0 : Room := { frames := 1, cells := 0, slots := 0, locals := 20 }
/-! body 4, t0 -/
theorem d4_0 : De Gd 0 (.aload_n 0) 1 := by decide +kernel
theorem d4_1 : De Gd 1 (.invokevirtual 141) 3 := by decide +kernel
theorem d4_4 : De Gd 4 (.ifCond .eq 5) 3 := by decide +kernel
theorem d4_7 : De Gd 7 (.iconst 0) 1 := by decide +kernel
theorem d4_8 : De Gd 8 (.ireturn) 1 := by decide +kernel
abbrev y28 : MethodName := ⟨cR, "isToken", "(Ljava/lang/String;)Z"⟩
theorem own_pn5 : plainName cR = true := by first | (simp [plainName, overriddenIn]; done) | decide +kernel
def Rt0 (t : Int32) : Option Value := some (.int t)
def Kt0 (Z : State)  (a0 : Addr) (h0 : Heap) (n0 : Nat) (t : Int32) (h : Heap) (L : List Loc) : Prop := own_K0 h0 h L
def ft0_0  : Int32 := (0 : Int32)
set_option maxRecDepth 65536 in
set_option maxHeartbeats 40000000 in
theorem gt0_0 (hw : HW aw Z) {h0 : Heap} {n0 : Nat}  (a0 : Addr)
    (Bd : BodyLoose p l y28 (head1 (Jvm.Cond.code y28 Gd 4 (some .boolean) :: ws) Qt0) Gd 4 (some .boolean) e s m #[(.ref a0)] below meth c s₁) (hml : c.maxLocals = 4) (hZ : Z.Warmed39 s.vm) (T0 : State) {locs : List Loc} (X0 : Stand p l e Qt0 s m #[(.ref a0)] below meth c T0 locs 0 0) (e0 : T0.heap = h0) (SZ0 : n0 ≤ h0.size) (NF0 : locs = []) (W_a0 : own_S0 Z h0 n0 a0 ) :
    own_Go p e below s Qt0.cells Qt0.slots (Rt0 (ft0_0 )) (Kt0 Z  a0 h0 n0 (ft0_0 )) (T0.setTop (mkF m 0 #[rv a0, uu, uu, uu] [])) := by
  have hx := Bd.exec
  have hby := Bd.bytes
  have hown : s.vm.findClass cR = some m.cls := findClass_of_methodNamed Bd.named
  have hnm := (name_of_methodNamed Bd.named Bd.method).1
  unfold ft0_0
  refine op T0 (mkF m 1 #[rv a0, uu, uu, uu] [(.ref a0)]) (fun _ k => XS.aloadN X0.here hx rfl (hb hby d4_0) rfl rfl k) ?_
  have ex1 := own_S0.exa W_a0
  obtain ⟨cq1, kq1, qa1, qb1, qc1⟩ := isOf hZ e0 ex1
  obtain ⟨_, _, ⟨T1, L1, k1, n1⟩, -, X1', ⟨Lc1, hQ1, l1, y1, z1⟩, st'⟩ := X0.virtualBack hx (y := y10) (z := y10) hown (mvT hZ (ow hw 27 rfl)) (mvT hZ (ow hw 28 rfl)) (notFace_of_selects (args := #[]) (mvT hZ (ow hw 30 rfl))) (mvT hZ (ow hw 30 rfl)) (mvT hZ (ow hw 29 rfl)) (by decide) (backOf (W := 0) (rmiew0 l Z aw hw []  a0 h0 n0 SZ0 W_a0) hZ (ow hw 31 rfl) (ow hw 4 rfl) (by decide) (by decide)) qa1 qc1 (g := (mkF m 1 #[rv a0, uu, uu, uu] [(.ref a0)])) rfl (by rw [hml]; rfl) (Steps.refl _) (argsL := []) (rest := []) (lenOf own_pd6 rfl) rfl (by show 2 * 0 + _ ≤ _; exact Nat.le_of_eq rfl) (hb hby d4_1) (fun _ _ => ⟨rfl, e0, (by decide : 0 + 0 ≤ _), (by decide : 0 + 0 ≤ _)⟩)
  dsimp only [Pt.U, Pt.locs, Pt.cells, Pt.slots] at X1' l1 y1 z1 st' hQ1
  subst l1 y1 z1
  obtain ⟨rfl, rfl, e1⟩ := hQ1
  have X1 : Stand p l e Qt0 s m #[(.ref a0)] below meth c T1 _ 0 0 := own_locs X1'
  refine op T1 (mkF m 4 #[rv a0, uu, uu, uu] [(.int 1)]) (fun _ k => st'.trans k) ?_
  have hc4 : ¬ ((1 : Int32) = (0 : Int32)) := (show ¬ (1 : Int32) = 0 by decide)
  refine op T1 (mkF m 8 #[rv a0, uu, uu, uu] [(.int 0)]) (fun _ k => XS.ifNo X1.here hx rfl (hb hby d4_4) rfl ((if0 _ _).trans (feq hc4).1) (XS.iconst X1.here hx rfl (hb hby d4_7) k)) ?_
  exact own_ret (w := (.int 0)) X1 hx Bd.notSynchronized Bd.returns rfl (Or.inl ⟨rfl, by simp, _, rfl⟩) (hb hby d4_8) (by rw [e1]; exact ⟨NF0, rfl⟩) (by decide) (by decide)
theorem ef_t0 (m : MethodId) (a0 : Addr) : entryFrame m #[(.ref a0)] 4 = mkF m 0 #[rv a0, uu, uu, uu] [] := by first | (simp [entryFrame, mkF, argsToLocals, Value.category]; done) | rfl
set_option maxRecDepth 65536 in
set_option maxHeartbeats 40000000 in
theorem rmt0 (l : Launch) (Z : State) (aw : Array Value) (hw : HW aw Z) (ws : List Jvm.Cond)  (a0 : Addr) (h0 : Heap) (n0 : Nat) (SZ0 : n0 ≤ h0.size) (W_a0 : own_S0 Z h0 n0 a0 ) :
    MetFree l y28 (head1 (Jvm.Cond.code y28 Gd 4 (some .boolean) :: ws) Qt0) (fun a U => a = #[(.ref a0)] ∧ Z.Warmed39 U.vm ∧ U.heap = h0) (fun _ _ _ _ _ => True) (fun _ U o U' => ∃ v L, o = .returned v ∧ own_Q (Rt0 (ft0_0 )) (Kt0 Z  a0 h0 n0 (ft0_0 )) v U'.heap L ∧ FrameEnd U o U' L Qt0.cells Qt0.slots) := by
  refine MetFree.of_bodySF (plainFor_of_name own_pn5) hisR ?_
  intro p e s m args below meth c s₁ Bd hml0 hP hK
  obtain ⟨rfl, hZ, hh⟩ := hP
  have hml : c.maxLocals = 4 := hml0
  have e0 : s₁.heap = h0 := by rw [← hh, Bd.state]; rfl
  exact own_pre (fun t k => castTop (ef_t0 m a0) k) (gt0_0 hw  a0 Bd hml hZ s₁ (Stand.of_body Bd) e0 SZ0 rfl W_a0)
abbrev Qt1 : Room := { frames := 5, cells := 2, slots := 64, locals := 106 }
theorem own_pd18 : parseMethodDescriptor "(I)C" = some ⟨[.int], some .char⟩ := by decide +kernel
/-! body 4, t1 -/
theorem d4_9 : De Gd 9 (.iconst 0) 1 := by decide +kernel
theorem d4_10 : De Gd 10 (.istore_n 1) 1 := by decide +kernel
theorem d4_11 : De Gd 11 (.iload_n 1) 1 := by decide +kernel
theorem d4_12 : De Gd 12 (.aload_n 0) 1 := by decide +kernel
theorem d4_13 : De Gd 13 (.invokevirtual 142) 3 := by decide +kernel
theorem d4_16 : De Gd 16 (.if_icmp .ge 72) 3 := by decide +kernel
theorem d4_19 : De Gd 19 (.aload_n 0) 1 := by decide +kernel
theorem d4_20 : De Gd 20 (.iload_n 1) 1 := by decide +kernel
theorem d4_21 : De Gd 21 (.invokevirtual 145) 3 := by decide +kernel
theorem d4_24 : De Gd 24 (.istore_n 2) 1 := by decide +kernel
theorem d4_25 : De Gd 25 (.iload_n 2) 1 := by decide +kernel
theorem d4_26 : De Gd 26 (.bipush 97) 2 := by decide +kernel
theorem d4_28 : De Gd 28 (.if_icmp .lt 9) 3 := by decide +kernel
theorem d4_31 : De Gd 31 (.iload_n 2) 1 := by decide +kernel
theorem d4_32 : De Gd 32 (.bipush 122) 2 := by decide +kernel
theorem d4_34 : De Gd 34 (.if_icmp .le 27) 3 := by decide +kernel
theorem d4_37 : De Gd 37 (.iload_n 2) 1 := by decide +kernel
theorem d4_38 : De Gd 38 (.bipush 65) 2 := by decide +kernel
theorem d4_40 : De Gd 40 (.if_icmp .lt 9) 3 := by decide +kernel
theorem d4_43 : De Gd 43 (.iload_n 2) 1 := by decide +kernel
theorem d4_44 : De Gd 44 (.bipush 90) 2 := by decide +kernel
theorem d4_46 : De Gd 46 (.if_icmp .le 15) 3 := by decide +kernel
theorem d4_49 : De Gd 49 (.iload_n 2) 1 := by decide +kernel
theorem d4_50 : De Gd 50 (.bipush 48) 2 := by decide +kernel
theorem d4_52 : De Gd 52 (.if_icmp .lt 13) 3 := by decide +kernel
theorem d4_55 : De Gd 55 (.iload_n 2) 1 := by decide +kernel
theorem d4_56 : De Gd 56 (.bipush 57) 2 := by decide +kernel
theorem d4_58 : De Gd 58 (.if_icmp .gt 7) 3 := by decide +kernel
theorem d4_61 : De Gd 61 (.iconst 1) 1 := by decide +kernel
theorem d4_62 : De Gd 62 (.goto 4) 3 := by decide +kernel
theorem d4_65 : De Gd 65 (.iconst 0) 1 := by decide +kernel
theorem d4_66 : De Gd 66 (.istore_n 3) 1 := by decide +kernel
theorem d4_67 : De Gd 67 (.iload_n 3) 1 := by decide +kernel
theorem d4_68 : De Gd 68 (.ifCond .ne 14) 3 := by decide +kernel
theorem d4_71 : De Gd 71 (.ldc 149) 2 := by decide +kernel
theorem d4_73 : De Gd 73 (.iload_n 2) 1 := by decide +kernel
theorem d4_74 : De Gd 74 (.invokevirtual 151) 3 := by decide +kernel
theorem d4_77 : De Gd 77 (.ifCond .ge 5) 3 := by decide +kernel
theorem d4_80 : De Gd 80 (.iconst 0) 1 := by decide +kernel
theorem d4_81 : De Gd 81 (.ireturn) 1 := by decide +kernel
theorem d4_82 : De Gd 82 (.iinc 1 1) 3 := by decide +kernel
theorem d4_85 : De Gd 85 (.goto (-74)) 3 := by decide +kernel
theorem d4_88 : De Gd 88 (.iconst 1) 1 := by decide +kernel
theorem d4_89 : De Gd 89 (.ireturn) 1 := by decide +kernel
def Rt1 (t : Int32) : Option Value := some (.int t)
def Kt1 (Z : State) (c0 : Int32) (a0 : Addr) (h0 : Heap) (n0 : Nat) (t : Int32) (h : Heap) (L : List Loc) : Prop := Fr n0 L ∧ Keep h0 h []
def ft1_82a (c0 : Int32) : Int32 := (1 : Int32)
set_option maxRecDepth 65536 in
set_option maxHeartbeats 40000000 in
theorem gt1_82a (hw : HW aw Z) {h0 : Heap} {n0 : Nat} (c0 : Int32) (a0 : Addr) (x3 : Int32)
    (Bd : BodyLoose p l y28 (head1 (Jvm.Cond.code y28 Gd 4 (some .boolean) :: ws) Qt1) Gd 4 (some .boolean) e s m #[(.ref a0)] below meth c s₁) (hml : c.maxLocals = 4) {vm0 : Vm} {k0 : Nat} (hZ : Z.Warmed39 vm0) (hown : vm0.findClass cR = some m.cls) (hS : s.Since vm0 k0) (T0 : State) {locs : List Loc} (X0 : Stand p l e Qt1 (s.setVm vm0) m #[(.ref a0)] below meth c T0 locs 2 64) {h : Heap} (e0 : T0.heap = h) (hk : k0 ≤ h.size) (C0 : CHv Z consts_1 vm0 h) (SZ0 : n0 ≤ h.size) (NF0 : Fr n0 locs) (KP0 : Keep h0 h []) (W_a0 : own_S1 Z h n0 a0 c0) (J0 : own_J Z h) :
    own_GoW p e below s Qt1.cells Qt1.slots (Rt1 (ft1_82a c0)) (Kt1 Z c0 a0 h0 n0 (ft1_82a c0)) (T0.setTop (mkF m 82 #[rv a0, iv 0, iv c0, iv x3] [])) := by
  have hx := Bd.exec
  have hby := Bd.bytes
  have hnm := (name_of_methodNamed Bd.named Bd.method).1
  unfold ft1_82a
  refine opW T0 (mkF m 13 #[rv a0, iv 1, iv c0, iv x3] [(.ref a0), (.int 1)]) (fun _ k => XS.iinc X0.here hx rfl (hb hby d4_82) rfl (l' := #[rv a0, iv 1, iv c0, iv x3]) rfl (XS.goto X0.here hx rfl (pc0 := 85) (pc' := 11) rfl (hb hby d4_85) (by decide) (by decide) (XS.iloadN X0.here hx rfl (hb hby d4_11) rfl (XS.aloadN X0.here hx rfl (hb hby d4_12) rfl rfl k)))) ?_
  have ex1 := own_S1.exa W_a0
  obtain ⟨cq1, kq1, qa1, qb1, qc1⟩ := isOf (s := s.setVm _) hZ e0 ex1
  obtain ⟨_, _, ⟨T1, L1, k1, n1⟩, -, X1', ⟨Lc1, hQ1, l1, y1, z1⟩, st'⟩ := X0.virtualBack hx (y := y9) (z := y9) hown (mvT hZ (ow hw 47 rfl)) (mvT hZ (ow hw 48 rfl)) (notFace_of_selects (args := #[]) (mvT hZ (ow hw 50 rfl))) (mvT hZ (ow hw 50 rfl)) (mvT hZ (ow hw 49 rfl)) (by decide) (backOf (W := 1) (rmlenw1 l Z aw hw [] c0 a0 h n0 SZ0 W_a0 J0) hZ (ow hw 51 rfl) (ow hw 4 rfl) (by decide) (by decide)) qa1 qc1 (g := (mkF m 13 #[rv a0, iv 1, iv c0, iv x3] [(.ref a0), (.int 1)])) rfl (by rw [hml]; rfl) (Steps.refl _) (argsL := []) (rest := [(.int 1)]) (lenOf own_pd10 rfl) rfl (by show 2 * 0 + _ ≤ _; exact Nat.le_of_eq rfl) (hb hby d4_13) (fun _ _ => ⟨rfl, e0, (by decide : 2 + 0 ≤ _), (by decide : 64 + 0 ≤ _)⟩)
  dsimp only [Pt.U, Pt.locs, Pt.cells, Pt.slots] at X1' l1 y1 z1 st' hQ1
  subst l1 y1 z1
  obtain ⟨rfl, rfl, e1⟩ := hQ1
  have X1 : Stand p l e Qt1 _ m #[(.ref a0)] below meth c T1 _ 2 64 := own_locs X1'
  refine opW T1 (mkF m 16 #[rv a0, iv 1, iv c0, iv x3] [(.int 1), (.int 1)]) (fun _ k => st'.trans k) ?_
  have hd2 : ¬ ((1 : Int32) < (1 : Int32)) := by decide
  refine opW T1 (mkF m 89 #[rv a0, iv 1, iv c0, iv x3] [(.int 1)]) (fun _ k => XS.icmpYes X1.here hx rfl (pc0 := 16) (pc' := 88) rfl (hb hby d4_16) rfl (flt hd2).2.1 (by decide) (by decide) (XS.iconst X1.here hx rfl (hb hby d4_88) k)) ?_
  exact own_retW hS (by rw [e1]; exact hk) (w := (.int 1)) X1 hx Bd.notSynchronized Bd.returns rfl (Or.inl ⟨rfl, by simp, _, rfl⟩) (hb hby d4_89) (by rw [e1]; exact ⟨NF0, KP0⟩) (by decide) (by decide)
def ft1_65a (c0 : Int32) : Int32 := (if (fio1_0 c0) < (0 : Int32) then (0 : Int32) else (ft1_82a c0))
set_option maxRecDepth 65536 in
set_option maxHeartbeats 40000000 in
theorem gt1_65a (hw : HW aw Z) {h0 : Heap} {n0 : Nat} (c0 : Int32) (a0 : Addr)
    (Bd : BodyLoose p l y28 (head1 (Jvm.Cond.code y28 Gd 4 (some .boolean) :: ws) Qt1) Gd 4 (some .boolean) e s m #[(.ref a0)] below meth c s₁) (hml : c.maxLocals = 4) {vm0 : Vm} {k0 : Nat} (hZ : Z.Warmed39 vm0) (hown : vm0.findClass cR = some m.cls) (hS : s.Since vm0 k0) (T0 : State) {locs : List Loc} (X0 : Stand p l e Qt1 (s.setVm vm0) m #[(.ref a0)] below meth c T0 locs 0 0) {h : Heap} (e0 : T0.heap = h) (hk : k0 ≤ h.size) (C0 : CHv Z consts_1 vm0 h) (SZ0 : n0 ≤ h.size) (NF0 : Fr n0 locs) (KP0 : Keep h0 h []) (W_a0 : own_S1 Z h n0 a0 c0) (J0 : own_J Z h) :
    own_GoW p e below s Qt1.cells Qt1.slots (Rt1 (ft1_65a c0)) (Kt1 Z c0 a0 h0 n0 (ft1_65a c0)) (T0.setTop (mkF m 65 #[rv a0, iv 0, iv c0, uu] [])) := by
  have hx := Bd.exec
  have hby := Bd.bytes
  have hnm := (name_of_methodNamed Bd.named Bd.method).1
  unfold ft1_65a
  refine opW T0 (mkF m 68 #[rv a0, iv 0, iv c0, iv 0] [(.int 0)]) (fun _ k => XS.iconst X0.here hx rfl (hb hby d4_65) (XS.istoreN X0.here hx rfl (hb hby d4_66) rfl (l' := #[rv a0, iv 0, iv c0, iv 0]) rfl (XS.iloadN X0.here hx rfl (hb hby d4_67) rfl k))) ?_
  have hd1 : (0 : Int32) = (0 : Int32) := by decide
  refine opW T0 (mkF m 71 #[rv a0, iv 0, iv c0, iv 0] []) (fun _ k => XS.ifNo X0.here hx rfl (hb hby d4_68) rfl ((if0 _ _).trans (teq hd1).2) k) ?_
  obtain ⟨a2, T2, h2, kk2, b2, kb2, X2, e2, E2, hS, hk, hZ, hown, EX2, FC2, FV2, AB2, -, -, CR2, LT2, -, st'⟩ := ldcCH X0 hx hZ hown (ow hw 79 rfl) (own_wS hw) e0 hS hk (own_EW hw) (List.mem_of_getElem? (i := 0) rfl) C0 (vs := [(33 : Int32), (35 : Int32), (36 : Int32), (37 : Int32), (38 : Int32), (39 : Int32), (42 : Int32), (43 : Int32), (45 : Int32), (46 : Int32), (94 : Int32), (95 : Int32), (96 : Int32), (124 : Int32), (126 : Int32)].map Value.int) (z := 15) ⟨by decide, by decide⟩ (by decide) (by decide) (g := (mkF m 71 #[rv a0, iv 0, iv c0, iv 0] [])) rfl (hb hby d4_71) (n := 60) (by decide) (by decide) (by decide) (by decide)
  have SZ2 : n0 ≤ h2.size := Nat.le_trans SZ0 E2.1
  have KP2 := KP0.ext E2
  have Cx2 := CR2.1
  have f3 := W_a0.ext E2
  have f4 := own_J.ext J0 E2
  have f5 : own_Pv Z h2 b2 (15 : Int32) [(33 : Int32), (35 : Int32), (36 : Int32), (37 : Int32), (38 : Int32), (39 : Int32), (42 : Int32), (43 : Int32), (45 : Int32), (46 : Int32), (94 : Int32), (95 : Int32), (96 : Int32), (124 : Int32), (126 : Int32)] .byte := ⟨_, AB2⟩
  refine opW T2 (mkF m 74 #[rv a0, iv 0, iv c0, iv 0] [(.int c0), (.ref a2)]) (fun _ k => st' _ (XS.iloadN X2.here hx rfl (hb hby d4_73) rfl k)) ?_
  obtain ⟨cq6, kq6, qa6, qb6, qc6⟩ := isOf (s := s.setVm _) hZ e2 EX2
  obtain ⟨_, _, ⟨T6, L6, k6, n6⟩, -, X6', ⟨Lc6, hQ6, l6, y6, z6⟩, st'⟩ := X2.virtualBack hx (y := y18) (z := y18) hown (mvT hZ (ow hw 80 rfl)) (mvT hZ (ow hw 81 rfl)) (notFace_of_selects (args := #[]) (mvT hZ (ow hw 83 rfl))) (mvT hZ (ow hw 83 rfl)) (mvT hZ (ow hw 82 rfl)) (by decide) (backOf (W := 0) (rmio1 l Z aw hw [] c0 a2 b2 h2 n0 SZ2 EX2 FV2 FC2 f5 f4) hZ (ow hw 84 rfl) (ow hw 4 rfl) (by decide) (by decide)) qa6 qc6 (g := (mkF m 74 #[rv a0, iv 0, iv c0, iv 0] [(.int c0), (.ref a2)])) rfl (by rw [hml]; rfl) (Steps.refl _) (argsL := [(.int c0)]) (rest := []) (lenOf own_pd11 rfl) rfl (by show 2 * 0 + _ ≤ _; exact Nat.le_of_eq rfl) (hb hby d4_74) (fun _ _ => ⟨rfl, e2, (by decide : 2 + 0 ≤ _), (by decide : 64 + 0 ≤ _)⟩)
  dsimp only [Pt.U, Pt.locs, Pt.cells, Pt.slots] at X6' l6 y6 z6 st' hQ6
  subst l6 y6 z6
  obtain ⟨rfl, rfl, e6⟩ := hQ6
  have X6 : Stand p l e Qt1 _ m #[(.ref a0)] below meth c T6 _ 2 64 := own_locs X6'
  refine opW T6 (mkF m 77 #[rv a0, iv 0, iv c0, iv 0] [(.int (fio1_0 c0))]) (fun _ k => st'.trans k) ?_
  refine own_iteTW Rt1 (Kt1 Z c0 a0 h0 n0) (fun hc77 => ?_) (fun hc77 => ?_)
  · skip
    refine opW T6 (mkF m 81 #[rv a0, iv 0, iv c0, iv 0] [(.int 0)]) (fun _ k => XS.ifNo X6.here hx rfl (hb hby d4_77) rfl ((if0 _ _).trans (tlt hc77).2.1) (XS.iconst X6.here hx rfl (hb hby d4_80) k)) ?_
    exact own_retW hS (by rw [e6]; exact hk) (w := (.int 0)) X6 hx Bd.notSynchronized Bd.returns rfl (Or.inl ⟨rfl, by simp, _, rfl⟩) (hb hby d4_81) (by rw [e6]; exact ⟨NF0, KP2⟩) (by decide) (by decide)
  · skip
    refine opW T6 (mkF m 82 #[rv a0, iv 0, iv c0, iv 0] []) (fun _ k => XS.ifYes X6.here hx rfl (pc0 := 77) (pc' := 82) rfl (hb hby d4_77) rfl ((if0 _ _).trans (flt hc77).2.1) (by decide) (by decide) k) ?_
    exact gt1_82a hw c0 a0 (0 : Int32) Bd hml hZ hown hS T6 X6 e6 hk Cx2 SZ2 NF0 KP2 f3 f4
def ft1_61a (c0 : Int32) : Int32 := (ft1_82a c0)
set_option maxRecDepth 65536 in
set_option maxHeartbeats 40000000 in
theorem gt1_61a (hw : HW aw Z) {h0 : Heap} {n0 : Nat} (c0 : Int32) (a0 : Addr)
    (Bd : BodyLoose p l y28 (head1 (Jvm.Cond.code y28 Gd 4 (some .boolean) :: ws) Qt1) Gd 4 (some .boolean) e s m #[(.ref a0)] below meth c s₁) (hml : c.maxLocals = 4) {vm0 : Vm} {k0 : Nat} (hZ : Z.Warmed39 vm0) (hown : vm0.findClass cR = some m.cls) (hS : s.Since vm0 k0) (T0 : State) {locs : List Loc} (X0 : Stand p l e Qt1 (s.setVm vm0) m #[(.ref a0)] below meth c T0 locs 0 0) {h : Heap} (e0 : T0.heap = h) (hk : k0 ≤ h.size) (C0 : CHv Z consts_1 vm0 h) (SZ0 : n0 ≤ h.size) (NF0 : Fr n0 locs) (KP0 : Keep h0 h []) (W_a0 : own_S1 Z h n0 a0 c0) (J0 : own_J Z h) :
    own_GoW p e below s Qt1.cells Qt1.slots (Rt1 (ft1_61a c0)) (Kt1 Z c0 a0 h0 n0 (ft1_61a c0)) (T0.setTop (mkF m 61 #[rv a0, iv 0, iv c0, uu] [])) := by
  have hx := Bd.exec
  have hby := Bd.bytes
  have hnm := (name_of_methodNamed Bd.named Bd.method).1
  unfold ft1_61a
  refine opW T0 (mkF m 68 #[rv a0, iv 0, iv c0, iv 1] [(.int 1)]) (fun _ k => XS.iconst X0.here hx rfl (hb hby d4_61) (XS.goto X0.here hx rfl (pc0 := 62) (pc' := 66) rfl (hb hby d4_62) (by decide) (by decide) (XS.istoreN X0.here hx rfl (hb hby d4_66) rfl (l' := #[rv a0, iv 0, iv c0, iv 1]) rfl (XS.iloadN X0.here hx rfl (hb hby d4_67) rfl k)))) ?_
  have hd1 : ¬ ((1 : Int32) = (0 : Int32)) := by decide
  refine opW T0 (mkF m 82 #[rv a0, iv 0, iv c0, iv 1] []) (fun _ k => XS.ifYes X0.here hx rfl (pc0 := 68) (pc' := 82) rfl (hb hby d4_68) rfl ((if0 _ _).trans (feq hd1).2) (by decide) (by decide) k) ?_
  exact gt1_82a hw c0 a0 (1 : Int32) Bd hml hZ hown hS T0 (X0.mono (by decide) (by decide)) e0 hk C0 SZ0 NF0 KP0 W_a0 J0
def ft1_0 (c0 : Int32) : Int32 := (if c0 < (97 : Int32) then (if c0 < (65 : Int32) then (if c0 < (48 : Int32) then (ft1_65a c0) else (if (57 : Int32) < c0 then (ft1_65a c0) else (ft1_61a c0))) else (if (90 : Int32) < c0 then (if c0 < (48 : Int32) then (ft1_65a c0) else (if (57 : Int32) < c0 then (ft1_65a c0) else (ft1_61a c0))) else (ft1_61a c0))) else (if (122 : Int32) < c0 then (if c0 < (65 : Int32) then (if c0 < (48 : Int32) then (ft1_65a c0) else (if (57 : Int32) < c0 then (ft1_65a c0) else (ft1_61a c0))) else (if (90 : Int32) < c0 then (if c0 < (48 : Int32) then (ft1_65a c0) else (if (57 : Int32) < c0 then (ft1_65a c0) else (ft1_61a c0))) else (ft1_61a c0))) else (ft1_61a c0)))
set_option maxRecDepth 65536 in
set_option maxHeartbeats 40000000 in
theorem gt1_0 (hw : HW aw Z) {h0 : Heap} {n0 : Nat} (c0 : Int32) (a0 : Addr)
    (Bd : BodyLoose p l y28 (head1 (Jvm.Cond.code y28 Gd 4 (some .boolean) :: ws) Qt1) Gd 4 (some .boolean) e s m #[(.ref a0)] below meth c s₁) (hml : c.maxLocals = 4) {vm0 : Vm} {k0 : Nat} (hZ : Z.Warmed39 vm0) (hown : vm0.findClass cR = some m.cls) (hS : s.Since vm0 k0) (T0 : State) {locs : List Loc} (X0 : Stand p l e Qt1 (s.setVm vm0) m #[(.ref a0)] below meth c T0 locs 0 0) (e0 : T0.heap = h0) (hk : k0 ≤ h0.size) (C0 : CHv Z consts_1 vm0 h0) (SZ0 : n0 ≤ h0.size) (NF0 : Fr n0 locs) (KP0 : Keep h0 h0 []) (W_a0 : own_S1 Z h0 n0 a0 c0) (J0 : own_J Z h0) :
    own_GoW p e below s Qt1.cells Qt1.slots (Rt1 (ft1_0 c0)) (Kt1 Z c0 a0 h0 n0 (ft1_0 c0)) (T0.setTop (mkF m 0 #[rv a0, uu, uu, uu] [])) := by
  have hx := Bd.exec
  have hby := Bd.bytes
  have hnm := (name_of_methodNamed Bd.named Bd.method).1
  unfold ft1_0
  refine opW T0 (mkF m 1 #[rv a0, uu, uu, uu] [(.ref a0)]) (fun _ k => XS.aloadN X0.here hx rfl (hb hby d4_0) rfl rfl k) ?_
  have ex1 := own_S1.exa W_a0
  obtain ⟨cq1, kq1, qa1, qb1, qc1⟩ := isOf (s := s.setVm _) hZ e0 ex1
  obtain ⟨_, _, ⟨T1, L1, k1, n1⟩, -, X1', ⟨Lc1, hQ1, l1, y1, z1⟩, st'⟩ := X0.virtualBack hx (y := y10) (z := y10) hown (mvT hZ (ow hw 27 rfl)) (mvT hZ (ow hw 28 rfl)) (notFace_of_selects (args := #[]) (mvT hZ (ow hw 30 rfl))) (mvT hZ (ow hw 30 rfl)) (mvT hZ (ow hw 29 rfl)) (by decide) (backOf (W := 0) (rmiew1 l Z aw hw [] c0 a0 h0 n0 SZ0 W_a0) hZ (ow hw 31 rfl) (ow hw 4 rfl) (by decide) (by decide)) qa1 qc1 (g := (mkF m 1 #[rv a0, uu, uu, uu] [(.ref a0)])) rfl (by rw [hml]; rfl) (Steps.refl _) (argsL := []) (rest := []) (lenOf own_pd6 rfl) rfl (by show 2 * 0 + _ ≤ _; exact Nat.le_of_eq rfl) (hb hby d4_1) (fun _ _ => ⟨rfl, e0, (by decide : 0 + 0 ≤ _), (by decide : 0 + 0 ≤ _)⟩)
  dsimp only [Pt.U, Pt.locs, Pt.cells, Pt.slots] at X1' l1 y1 z1 st' hQ1
  subst l1 y1 z1
  obtain ⟨rfl, rfl, e1⟩ := hQ1
  have X1 : Stand p l e Qt1 _ m #[(.ref a0)] below meth c T1 _ 0 0 := own_locs X1'
  refine opW T1 (mkF m 4 #[rv a0, uu, uu, uu] [(.int 0)]) (fun _ k => st'.trans k) ?_
  have hd2 : (0 : Int32) = (0 : Int32) := by decide
  refine opW T1 (mkF m 13 #[rv a0, iv 0, uu, uu] [(.ref a0), (.int 0)]) (fun _ k => XS.ifYes X1.here hx rfl (pc0 := 4) (pc' := 9) rfl (hb hby d4_4) rfl ((if0 _ _).trans (teq hd2).1) (by decide) (by decide) (XS.iconst X1.here hx rfl (hb hby d4_9) (XS.istoreN X1.here hx rfl (hb hby d4_10) rfl (l' := #[rv a0, iv 0, uu, uu]) rfl (XS.iloadN X1.here hx rfl (hb hby d4_11) rfl (XS.aloadN X1.here hx rfl (hb hby d4_12) rfl rfl k))))) ?_
  have ex3 := own_S1.exa W_a0
  obtain ⟨cq3, kq3, qa3, qb3, qc3⟩ := isOf (s := s.setVm _) hZ e1 ex3
  obtain ⟨_, _, ⟨T3, L3, k3, n3⟩, -, X3', ⟨Lc3, hQ3, l3, y3, z3⟩, st'⟩ := X1.virtualBack hx (y := y9) (z := y9) hown (mvT hZ (ow hw 47 rfl)) (mvT hZ (ow hw 48 rfl)) (notFace_of_selects (args := #[]) (mvT hZ (ow hw 50 rfl))) (mvT hZ (ow hw 50 rfl)) (mvT hZ (ow hw 49 rfl)) (by decide) (backOf (W := 1) (rmlenw1 l Z aw hw [] c0 a0 h0 n0 SZ0 W_a0 J0) hZ (ow hw 51 rfl) (ow hw 4 rfl) (by decide) (by decide)) qa3 qc3 (g := (mkF m 13 #[rv a0, iv 0, uu, uu] [(.ref a0), (.int 0)])) rfl (by rw [hml]; rfl) (Steps.refl _) (argsL := []) (rest := [(.int 0)]) (lenOf own_pd10 rfl) rfl (by show 2 * 0 + _ ≤ _; exact Nat.le_of_eq rfl) (hb hby d4_13) (fun _ _ => ⟨rfl, e1, (by decide : 0 + 0 ≤ _), (by decide : 0 + 0 ≤ _)⟩)
  dsimp only [Pt.U, Pt.locs, Pt.cells, Pt.slots] at X3' l3 y3 z3 st' hQ3
  subst l3 y3 z3
  obtain ⟨rfl, rfl, e3⟩ := hQ3
  have X3 : Stand p l e Qt1 _ m #[(.ref a0)] below meth c T3 _ 0 0 := own_locs X3'
  refine opW T3 (mkF m 16 #[rv a0, iv 0, uu, uu] [(.int 1), (.int 0)]) (fun _ k => st'.trans k) ?_
  have hd4 : (0 : Int32) < (1 : Int32) := by decide
  refine opW T3 (mkF m 21 #[rv a0, iv 0, uu, uu] [(.int 0), (.ref a0)]) (fun _ k => XS.icmpNo X3.here hx rfl (hb hby d4_16) rfl (tlt hd4).2.1 (XS.aloadN X3.here hx rfl (hb hby d4_19) rfl rfl (XS.iloadN X3.here hx rfl (hb hby d4_20) rfl k))) ?_
  have ex5 := own_S1.exa W_a0
  obtain ⟨cq5, kq5, qa5, qb5, qc5⟩ := isOf (s := s.setVm _) hZ e3 ex5
  obtain ⟨_, _, ⟨T5, L5, k5, n5⟩, -, X5', ⟨Lc5, hQ5, l5, y5, z5⟩, st'⟩ := X3.virtualBack hx (y := y11) (z := y11) hown (mvT hZ (ow hw 57 rfl)) (mvT hZ (ow hw 58 rfl)) (notFace_of_selects (args := #[]) (mvT hZ (ow hw 60 rfl))) (mvT hZ (ow hw 60 rfl)) (mvT hZ (ow hw 59 rfl)) (by decide) (backOf (W := 0) (rmchw10 l Z aw hw [] c0 a0 h0 n0 SZ0 W_a0 J0) hZ (ow hw 61 rfl) (ow hw 4 rfl) (by decide) (by decide)) qa5 qc5 (g := (mkF m 21 #[rv a0, iv 0, uu, uu] [(.int 0), (.ref a0)])) rfl (by rw [hml]; rfl) (Steps.refl _) (argsL := [(.int 0)]) (rest := []) (lenOf own_pd18 rfl) rfl (by show 2 * 0 + _ ≤ _; exact Nat.le_of_eq rfl) (hb hby d4_21) (fun _ _ => ⟨rfl, e3, (by decide : 0 + 0 ≤ _), (by decide : 0 + 0 ≤ _)⟩)
  dsimp only [Pt.U, Pt.locs, Pt.cells, Pt.slots] at X5' l5 y5 z5 st' hQ5
  subst l5 y5 z5
  obtain ⟨rfl, rfl, e5⟩ := hQ5
  have X5 : Stand p l e Qt1 _ m #[(.ref a0)] below meth c T5 _ 0 0 := own_locs X5'
  refine opW T5 (mkF m 28 #[rv a0, iv 0, iv c0, uu] [(.int 97), (.int c0)]) (fun _ k => st'.trans (XS.istoreN X5.here hx rfl (hb hby d4_24) rfl (l' := #[rv a0, iv 0, iv c0, uu]) rfl (XS.iloadN X5.here hx rfl (hb hby d4_25) rfl (XS.bipush X5.here hx rfl (hb hby d4_26) k)))) ?_
  refine own_iteTW Rt1 (Kt1 Z c0 a0 h0 n0) (fun hc28 => ?_) (fun hc28 => ?_)
  · skip
    refine opW T5 (mkF m 40 #[rv a0, iv 0, iv c0, uu] [(.int 65), (.int c0)]) (fun _ k => XS.icmpYes X5.here hx rfl (pc0 := 28) (pc' := 37) rfl (hb hby d4_28) rfl (tlt hc28).1 (by decide) (by decide) (XS.iloadN X5.here hx rfl (hb hby d4_37) rfl (XS.bipush X5.here hx rfl (hb hby d4_38) k))) ?_
    refine own_iteTW Rt1 (Kt1 Z c0 a0 h0 n0) (fun hc40 => ?_) (fun hc40 => ?_)
    · skip
      refine opW T5 (mkF m 52 #[rv a0, iv 0, iv c0, uu] [(.int 48), (.int c0)]) (fun _ k => XS.icmpYes X5.here hx rfl (pc0 := 40) (pc' := 49) rfl (hb hby d4_40) rfl (tlt hc40).1 (by decide) (by decide) (XS.iloadN X5.here hx rfl (hb hby d4_49) rfl (XS.bipush X5.here hx rfl (hb hby d4_50) k))) ?_
      refine own_iteTW Rt1 (Kt1 Z c0 a0 h0 n0) (fun hc52 => ?_) (fun hc52 => ?_)
      · skip
        refine opW T5 (mkF m 65 #[rv a0, iv 0, iv c0, uu] []) (fun _ k => XS.icmpYes X5.here hx rfl (pc0 := 52) (pc' := 65) rfl (hb hby d4_52) rfl (tlt hc52).1 (by decide) (by decide) k) ?_
        exact gt1_65a hw c0 a0 Bd hml hZ hown hS T5 X5 e5 hk C0 SZ0 NF0 KP0 W_a0 J0
      · skip
        refine opW T5 (mkF m 58 #[rv a0, iv 0, iv c0, uu] [(.int 57), (.int c0)]) (fun _ k => XS.icmpNo X5.here hx rfl (hb hby d4_52) rfl (flt hc52).1 (XS.iloadN X5.here hx rfl (hb hby d4_55) rfl (XS.bipush X5.here hx rfl (hb hby d4_56) k))) ?_
        refine own_iteTW Rt1 (Kt1 Z c0 a0 h0 n0) (fun hc58 => ?_) (fun hc58 => ?_)
        · skip
          refine opW T5 (mkF m 65 #[rv a0, iv 0, iv c0, uu] []) (fun _ k => XS.icmpYes X5.here hx rfl (pc0 := 58) (pc' := 65) rfl (hb hby d4_58) rfl (tlt hc58).2.2.1 (by decide) (by decide) k) ?_
          exact gt1_65a hw c0 a0 Bd hml hZ hown hS T5 X5 e5 hk C0 SZ0 NF0 KP0 W_a0 J0
        · skip
          refine opW T5 (mkF m 61 #[rv a0, iv 0, iv c0, uu] []) (fun _ k => XS.icmpNo X5.here hx rfl (hb hby d4_58) rfl (flt hc58).2.2.1 k) ?_
          exact gt1_61a hw c0 a0 Bd hml hZ hown hS T5 X5 e5 hk C0 SZ0 NF0 KP0 W_a0 J0
    · skip
      refine opW T5 (mkF m 46 #[rv a0, iv 0, iv c0, uu] [(.int 90), (.int c0)]) (fun _ k => XS.icmpNo X5.here hx rfl (hb hby d4_40) rfl (flt hc40).1 (XS.iloadN X5.here hx rfl (hb hby d4_43) rfl (XS.bipush X5.here hx rfl (hb hby d4_44) k))) ?_
      refine own_iteTW Rt1 (Kt1 Z c0 a0 h0 n0) (fun hc46 => ?_) (fun hc46 => ?_)
      · skip
        refine opW T5 (mkF m 52 #[rv a0, iv 0, iv c0, uu] [(.int 48), (.int c0)]) (fun _ k => XS.icmpNo X5.here hx rfl (hb hby d4_46) rfl (tlt hc46).2.2.2 (XS.iloadN X5.here hx rfl (hb hby d4_49) rfl (XS.bipush X5.here hx rfl (hb hby d4_50) k))) ?_
        refine own_iteTW Rt1 (Kt1 Z c0 a0 h0 n0) (fun hc52 => ?_) (fun hc52 => ?_)
        · skip
          refine opW T5 (mkF m 65 #[rv a0, iv 0, iv c0, uu] []) (fun _ k => XS.icmpYes X5.here hx rfl (pc0 := 52) (pc' := 65) rfl (hb hby d4_52) rfl (tlt hc52).1 (by decide) (by decide) k) ?_
          exact gt1_65a hw c0 a0 Bd hml hZ hown hS T5 X5 e5 hk C0 SZ0 NF0 KP0 W_a0 J0
        · skip
          refine opW T5 (mkF m 58 #[rv a0, iv 0, iv c0, uu] [(.int 57), (.int c0)]) (fun _ k => XS.icmpNo X5.here hx rfl (hb hby d4_52) rfl (flt hc52).1 (XS.iloadN X5.here hx rfl (hb hby d4_55) rfl (XS.bipush X5.here hx rfl (hb hby d4_56) k))) ?_
          refine own_iteTW Rt1 (Kt1 Z c0 a0 h0 n0) (fun hc58 => ?_) (fun hc58 => ?_)
          · skip
            refine opW T5 (mkF m 65 #[rv a0, iv 0, iv c0, uu] []) (fun _ k => XS.icmpYes X5.here hx rfl (pc0 := 58) (pc' := 65) rfl (hb hby d4_58) rfl (tlt hc58).2.2.1 (by decide) (by decide) k) ?_
            exact gt1_65a hw c0 a0 Bd hml hZ hown hS T5 X5 e5 hk C0 SZ0 NF0 KP0 W_a0 J0
          · skip
            refine opW T5 (mkF m 61 #[rv a0, iv 0, iv c0, uu] []) (fun _ k => XS.icmpNo X5.here hx rfl (hb hby d4_58) rfl (flt hc58).2.2.1 k) ?_
            exact gt1_61a hw c0 a0 Bd hml hZ hown hS T5 X5 e5 hk C0 SZ0 NF0 KP0 W_a0 J0
      · skip
        refine opW T5 (mkF m 61 #[rv a0, iv 0, iv c0, uu] []) (fun _ k => XS.icmpYes X5.here hx rfl (pc0 := 46) (pc' := 61) rfl (hb hby d4_46) rfl (flt hc46).2.2.2 (by decide) (by decide) k) ?_
        exact gt1_61a hw c0 a0 Bd hml hZ hown hS T5 X5 e5 hk C0 SZ0 NF0 KP0 W_a0 J0
  · skip
    refine opW T5 (mkF m 34 #[rv a0, iv 0, iv c0, uu] [(.int 122), (.int c0)]) (fun _ k => XS.icmpNo X5.here hx rfl (hb hby d4_28) rfl (flt hc28).1 (XS.iloadN X5.here hx rfl (hb hby d4_31) rfl (XS.bipush X5.here hx rfl (hb hby d4_32) k))) ?_
    refine own_iteTW Rt1 (Kt1 Z c0 a0 h0 n0) (fun hc34 => ?_) (fun hc34 => ?_)
    · skip
      refine opW T5 (mkF m 40 #[rv a0, iv 0, iv c0, uu] [(.int 65), (.int c0)]) (fun _ k => XS.icmpNo X5.here hx rfl (hb hby d4_34) rfl (tlt hc34).2.2.2 (XS.iloadN X5.here hx rfl (hb hby d4_37) rfl (XS.bipush X5.here hx rfl (hb hby d4_38) k))) ?_
      refine own_iteTW Rt1 (Kt1 Z c0 a0 h0 n0) (fun hc40 => ?_) (fun hc40 => ?_)
      · skip
        refine opW T5 (mkF m 52 #[rv a0, iv 0, iv c0, uu] [(.int 48), (.int c0)]) (fun _ k => XS.icmpYes X5.here hx rfl (pc0 := 40) (pc' := 49) rfl (hb hby d4_40) rfl (tlt hc40).1 (by decide) (by decide) (XS.iloadN X5.here hx rfl (hb hby d4_49) rfl (XS.bipush X5.here hx rfl (hb hby d4_50) k))) ?_
        refine own_iteTW Rt1 (Kt1 Z c0 a0 h0 n0) (fun hc52 => ?_) (fun hc52 => ?_)
        · skip
          refine opW T5 (mkF m 65 #[rv a0, iv 0, iv c0, uu] []) (fun _ k => XS.icmpYes X5.here hx rfl (pc0 := 52) (pc' := 65) rfl (hb hby d4_52) rfl (tlt hc52).1 (by decide) (by decide) k) ?_
          exact gt1_65a hw c0 a0 Bd hml hZ hown hS T5 X5 e5 hk C0 SZ0 NF0 KP0 W_a0 J0
        · skip
          refine opW T5 (mkF m 58 #[rv a0, iv 0, iv c0, uu] [(.int 57), (.int c0)]) (fun _ k => XS.icmpNo X5.here hx rfl (hb hby d4_52) rfl (flt hc52).1 (XS.iloadN X5.here hx rfl (hb hby d4_55) rfl (XS.bipush X5.here hx rfl (hb hby d4_56) k))) ?_
          refine own_iteTW Rt1 (Kt1 Z c0 a0 h0 n0) (fun hc58 => ?_) (fun hc58 => ?_)
          · skip
            refine opW T5 (mkF m 65 #[rv a0, iv 0, iv c0, uu] []) (fun _ k => XS.icmpYes X5.here hx rfl (pc0 := 58) (pc' := 65) rfl (hb hby d4_58) rfl (tlt hc58).2.2.1 (by decide) (by decide) k) ?_
            exact gt1_65a hw c0 a0 Bd hml hZ hown hS T5 X5 e5 hk C0 SZ0 NF0 KP0 W_a0 J0
          · skip
            refine opW T5 (mkF m 61 #[rv a0, iv 0, iv c0, uu] []) (fun _ k => XS.icmpNo X5.here hx rfl (hb hby d4_58) rfl (flt hc58).2.2.1 k) ?_
            exact gt1_61a hw c0 a0 Bd hml hZ hown hS T5 X5 e5 hk C0 SZ0 NF0 KP0 W_a0 J0
      · skip
        refine opW T5 (mkF m 46 #[rv a0, iv 0, iv c0, uu] [(.int 90), (.int c0)]) (fun _ k => XS.icmpNo X5.here hx rfl (hb hby d4_40) rfl (flt hc40).1 (XS.iloadN X5.here hx rfl (hb hby d4_43) rfl (XS.bipush X5.here hx rfl (hb hby d4_44) k))) ?_
        refine own_iteTW Rt1 (Kt1 Z c0 a0 h0 n0) (fun hc46 => ?_) (fun hc46 => ?_)
        · skip
          refine opW T5 (mkF m 52 #[rv a0, iv 0, iv c0, uu] [(.int 48), (.int c0)]) (fun _ k => XS.icmpNo X5.here hx rfl (hb hby d4_46) rfl (tlt hc46).2.2.2 (XS.iloadN X5.here hx rfl (hb hby d4_49) rfl (XS.bipush X5.here hx rfl (hb hby d4_50) k))) ?_
          refine own_iteTW Rt1 (Kt1 Z c0 a0 h0 n0) (fun hc52 => ?_) (fun hc52 => ?_)
          · skip
            refine opW T5 (mkF m 65 #[rv a0, iv 0, iv c0, uu] []) (fun _ k => XS.icmpYes X5.here hx rfl (pc0 := 52) (pc' := 65) rfl (hb hby d4_52) rfl (tlt hc52).1 (by decide) (by decide) k) ?_
            exact gt1_65a hw c0 a0 Bd hml hZ hown hS T5 X5 e5 hk C0 SZ0 NF0 KP0 W_a0 J0
          · skip
            refine opW T5 (mkF m 58 #[rv a0, iv 0, iv c0, uu] [(.int 57), (.int c0)]) (fun _ k => XS.icmpNo X5.here hx rfl (hb hby d4_52) rfl (flt hc52).1 (XS.iloadN X5.here hx rfl (hb hby d4_55) rfl (XS.bipush X5.here hx rfl (hb hby d4_56) k))) ?_
            refine own_iteTW Rt1 (Kt1 Z c0 a0 h0 n0) (fun hc58 => ?_) (fun hc58 => ?_)
            · skip
              refine opW T5 (mkF m 65 #[rv a0, iv 0, iv c0, uu] []) (fun _ k => XS.icmpYes X5.here hx rfl (pc0 := 58) (pc' := 65) rfl (hb hby d4_58) rfl (tlt hc58).2.2.1 (by decide) (by decide) k) ?_
              exact gt1_65a hw c0 a0 Bd hml hZ hown hS T5 X5 e5 hk C0 SZ0 NF0 KP0 W_a0 J0
            · skip
              refine opW T5 (mkF m 61 #[rv a0, iv 0, iv c0, uu] []) (fun _ k => XS.icmpNo X5.here hx rfl (hb hby d4_58) rfl (flt hc58).2.2.1 k) ?_
              exact gt1_61a hw c0 a0 Bd hml hZ hown hS T5 X5 e5 hk C0 SZ0 NF0 KP0 W_a0 J0
        · skip
          refine opW T5 (mkF m 61 #[rv a0, iv 0, iv c0, uu] []) (fun _ k => XS.icmpYes X5.here hx rfl (pc0 := 46) (pc' := 61) rfl (hb hby d4_46) rfl (flt hc46).2.2.2 (by decide) (by decide) k) ?_
          exact gt1_61a hw c0 a0 Bd hml hZ hown hS T5 X5 e5 hk C0 SZ0 NF0 KP0 W_a0 J0
    · skip
      refine opW T5 (mkF m 61 #[rv a0, iv 0, iv c0, uu] []) (fun _ k => XS.icmpYes X5.here hx rfl (pc0 := 34) (pc' := 61) rfl (hb hby d4_34) rfl (flt hc34).2.2.2 (by decide) (by decide) k) ?_
      exact gt1_61a hw c0 a0 Bd hml hZ hown hS T5 X5 e5 hk C0 SZ0 NF0 KP0 W_a0 J0
theorem ef_t1 (m : MethodId) (a0 : Addr) : entryFrame m #[(.ref a0)] 4 = mkF m 0 #[rv a0, uu, uu, uu] [] := by first | (simp [entryFrame, mkF, argsToLocals, Value.category]; done) | rfl
set_option maxRecDepth 65536 in
set_option maxHeartbeats 40000000 in
theorem rmt1 (l : Launch) (Z : State) (aw : Array Value) (hw : HW aw Z) (ws : List Jvm.Cond) (c0 : Int32) (a0 : Addr) (h0 : Heap) (n0 : Nat) (SZ0 : n0 ≤ h0.size) (W_a0 : own_S1 Z h0 n0 a0 c0) (J0 : own_J Z h0) :
    MetFree l y28 (head1 (Jvm.Cond.code y28 Gd 4 (some .boolean) :: ws) Qt1) (fun a U => a = #[(.ref a0)] ∧ Z.Warmed39 U.vm ∧ U.heap = h0 ∧ CHv Z consts_1 U.vm h0) (fun _ _ _ _ _ => True) (fun _ U o U' => ∃ v L, o = .returned v ∧ own_Q (Rt1 (ft1_0 c0)) (Kt1 Z c0 a0 h0 n0 (ft1_0 c0)) v U'.heap L ∧ ReturnedEndW U o U' L Qt1.cells Qt1.slots) := by
  refine MetFree.of_bodySF (plainFor_of_name own_pn5) hisR ?_
  intro p e s m args below meth c s₁ Bd hml0 hP hK
  obtain ⟨rfl, hZ, hh, HC⟩ := hP
  have hown := findClass_of_methodNamed Bd.named
  have hS : s.Since s.vm 0 := (State.WarmedH.refl s).since 0
  have hml : c.maxLocals = 4 := hml0
  have e0 : s₁.heap = h0 := by rw [← hh, Bd.state]; rfl
  exact own_preW (fun t k => castTop (ef_t1 m a0) k) (gt1_0 hw c0 a0 Bd hml hZ hown hS s₁ (Stand.of_body Bd) e0 (Nat.zero_le _) HC SZ0 (Fr.nil n0) (Keep.refl _ _) W_a0 J0)
abbrev Qt2 : Room := { frames := 5, cells := 4, slots := 128, locals := 106 }
/-! body 4, t2 -/
def Rt2 (t : Int32) : Option Value := some (.int t)
def Kt2 (Z : State) (c0 c1 : Int32) (a0 : Addr) (h0 : Heap) (n0 : Nat) (t : Int32) (h : Heap) (L : List Loc) : Prop := Fr n0 L ∧ Keep h0 h []
def ft2_82b (c0 c1 : Int32) : Int32 := (1 : Int32)
set_option maxRecDepth 65536 in
set_option maxHeartbeats 40000000 in
theorem gt2_82b (hw : HW aw Z) {h0 : Heap} {n0 : Nat} (c0 c1 : Int32) (a0 : Addr) (x3 : Int32)
    (Bd : BodyLoose p l y28 (head1 (Jvm.Cond.code y28 Gd 4 (some .boolean) :: ws) Qt2) Gd 4 (some .boolean) e s m #[(.ref a0)] below meth c s₁) (hml : c.maxLocals = 4) {vm0 : Vm} {k0 : Nat} (hZ : Z.Warmed39 vm0) (hown : vm0.findClass cR = some m.cls) (hS : s.Since vm0 k0) (T0 : State) {locs : List Loc} (X0 : Stand p l e Qt2 (s.setVm vm0) m #[(.ref a0)] below meth c T0 locs 4 128) {h : Heap} (e0 : T0.heap = h) (hk : k0 ≤ h.size) (C0 : CHv Z consts_1 vm0 h) (SZ0 : n0 ≤ h.size) (NF0 : Fr n0 locs) (KP0 : Keep h0 h []) (W_a0 : own_S2 Z h n0 a0 c0 c1) (J0 : own_J Z h) :
    own_GoW p e below s Qt2.cells Qt2.slots (Rt2 (ft2_82b c0 c1)) (Kt2 Z c0 c1 a0 h0 n0 (ft2_82b c0 c1)) (T0.setTop (mkF m 82 #[rv a0, iv 1, iv c1, iv x3] [])) := by
  have hx := Bd.exec
  have hby := Bd.bytes
  have hnm := (name_of_methodNamed Bd.named Bd.method).1
  unfold ft2_82b
  refine opW T0 (mkF m 13 #[rv a0, iv 2, iv c1, iv x3] [(.ref a0), (.int 2)]) (fun _ k => XS.iinc X0.here hx rfl (hb hby d4_82) rfl (l' := #[rv a0, iv 2, iv c1, iv x3]) rfl (XS.goto X0.here hx rfl (pc0 := 85) (pc' := 11) rfl (hb hby d4_85) (by decide) (by decide) (XS.iloadN X0.here hx rfl (hb hby d4_11) rfl (XS.aloadN X0.here hx rfl (hb hby d4_12) rfl rfl k)))) ?_
  have ex1 := own_S2.exa W_a0
  obtain ⟨cq1, kq1, qa1, qb1, qc1⟩ := isOf (s := s.setVm _) hZ e0 ex1
  obtain ⟨_, _, ⟨T1, L1, k1, n1⟩, -, X1', ⟨Lc1, hQ1, l1, y1, z1⟩, st'⟩ := X0.virtualBack hx (y := y9) (z := y9) hown (mvT hZ (ow hw 47 rfl)) (mvT hZ (ow hw 48 rfl)) (notFace_of_selects (args := #[]) (mvT hZ (ow hw 50 rfl))) (mvT hZ (ow hw 50 rfl)) (mvT hZ (ow hw 49 rfl)) (by decide) (backOf (W := 1) (rmlenw2 l Z aw hw [] c0 c1 a0 h n0 SZ0 W_a0 J0) hZ (ow hw 51 rfl) (ow hw 4 rfl) (by decide) (by decide)) qa1 qc1 (g := (mkF m 13 #[rv a0, iv 2, iv c1, iv x3] [(.ref a0), (.int 2)])) rfl (by rw [hml]; rfl) (Steps.refl _) (argsL := []) (rest := [(.int 2)]) (lenOf own_pd10 rfl) rfl (by show 2 * 0 + _ ≤ _; exact Nat.le_of_eq rfl) (hb hby d4_13) (fun _ _ => ⟨rfl, e0, (by decide : 4 + 0 ≤ _), (by decide : 128 + 0 ≤ _)⟩)
  dsimp only [Pt.U, Pt.locs, Pt.cells, Pt.slots] at X1' l1 y1 z1 st' hQ1
  subst l1 y1 z1
  obtain ⟨rfl, rfl, e1⟩ := hQ1
  have X1 : Stand p l e Qt2 _ m #[(.ref a0)] below meth c T1 _ 4 128 := own_locs X1'
  refine opW T1 (mkF m 16 #[rv a0, iv 2, iv c1, iv x3] [(.int 2), (.int 2)]) (fun _ k => st'.trans k) ?_
  have hd2 : ¬ ((2 : Int32) < (2 : Int32)) := by decide
  refine opW T1 (mkF m 89 #[rv a0, iv 2, iv c1, iv x3] [(.int 1)]) (fun _ k => XS.icmpYes X1.here hx rfl (pc0 := 16) (pc' := 88) rfl (hb hby d4_16) rfl (flt hd2).2.1 (by decide) (by decide) (XS.iconst X1.here hx rfl (hb hby d4_88) k)) ?_
  exact own_retW hS (by rw [e1]; exact hk) (w := (.int 1)) X1 hx Bd.notSynchronized Bd.returns rfl (Or.inl ⟨rfl, by simp, _, rfl⟩) (hb hby d4_89) (by rw [e1]; exact ⟨NF0, KP0⟩) (by decide) (by decide)
def ft2_65b (c0 c1 : Int32) : Int32 := (if (fio1_0 c1) < (0 : Int32) then (0 : Int32) else (ft2_82b c0 c1))
set_option maxRecDepth 65536 in
set_option maxHeartbeats 40000000 in
theorem gt2_65b (hw : HW aw Z) {h0 : Heap} {n0 : Nat} (c0 c1 : Int32) (a0 : Addr) (x3 : Int32)
    (Bd : BodyLoose p l y28 (head1 (Jvm.Cond.code y28 Gd 4 (some .boolean) :: ws) Qt2) Gd 4 (some .boolean) e s m #[(.ref a0)] below meth c s₁) (hml : c.maxLocals = 4) {vm0 : Vm} {k0 : Nat} (hZ : Z.Warmed39 vm0) (hown : vm0.findClass cR = some m.cls) (hS : s.Since vm0 k0) (T0 : State) {locs : List Loc} (X0 : Stand p l e Qt2 (s.setVm vm0) m #[(.ref a0)] below meth c T0 locs 2 64) {h : Heap} (e0 : T0.heap = h) (hk : k0 ≤ h.size) (C0 : CHv Z consts_1 vm0 h) (SZ0 : n0 ≤ h.size) (NF0 : Fr n0 locs) (KP0 : Keep h0 h []) (W_a0 : own_S2 Z h n0 a0 c0 c1) (J0 : own_J Z h) :
    own_GoW p e below s Qt2.cells Qt2.slots (Rt2 (ft2_65b c0 c1)) (Kt2 Z c0 c1 a0 h0 n0 (ft2_65b c0 c1)) (T0.setTop (mkF m 65 #[rv a0, iv 1, iv c1, iv x3] [])) := by
  have hx := Bd.exec
  have hby := Bd.bytes
  have hnm := (name_of_methodNamed Bd.named Bd.method).1
  unfold ft2_65b
  refine opW T0 (mkF m 68 #[rv a0, iv 1, iv c1, iv 0] [(.int 0)]) (fun _ k => XS.iconst X0.here hx rfl (hb hby d4_65) (XS.istoreN X0.here hx rfl (hb hby d4_66) rfl (l' := #[rv a0, iv 1, iv c1, iv 0]) rfl (XS.iloadN X0.here hx rfl (hb hby d4_67) rfl k))) ?_
  have hd1 : (0 : Int32) = (0 : Int32) := by decide
  refine opW T0 (mkF m 71 #[rv a0, iv 1, iv c1, iv 0] []) (fun _ k => XS.ifNo X0.here hx rfl (hb hby d4_68) rfl ((if0 _ _).trans (teq hd1).2) k) ?_
  obtain ⟨a2, T2, h2, kk2, b2, kb2, X2, e2, E2, hS, hk, hZ, hown, EX2, FC2, FV2, AB2, -, -, CR2, LT2, -, st'⟩ := ldcCH X0 hx hZ hown (ow hw 79 rfl) (own_wS hw) e0 hS hk (own_EW hw) (List.mem_of_getElem? (i := 0) rfl) C0 (vs := [(33 : Int32), (35 : Int32), (36 : Int32), (37 : Int32), (38 : Int32), (39 : Int32), (42 : Int32), (43 : Int32), (45 : Int32), (46 : Int32), (94 : Int32), (95 : Int32), (96 : Int32), (124 : Int32), (126 : Int32)].map Value.int) (z := 15) ⟨by decide, by decide⟩ (by decide) (by decide) (g := (mkF m 71 #[rv a0, iv 1, iv c1, iv 0] [])) rfl (hb hby d4_71) (n := 60) (by decide) (by decide) (by decide) (by decide)
  have SZ2 : n0 ≤ h2.size := Nat.le_trans SZ0 E2.1
  have KP2 := KP0.ext E2
  have Cx2 := CR2.1
  have f3 := W_a0.ext E2
  have f4 := own_J.ext J0 E2
  have f5 : own_Pv Z h2 b2 (15 : Int32) [(33 : Int32), (35 : Int32), (36 : Int32), (37 : Int32), (38 : Int32), (39 : Int32), (42 : Int32), (43 : Int32), (45 : Int32), (46 : Int32), (94 : Int32), (95 : Int32), (96 : Int32), (124 : Int32), (126 : Int32)] .byte := ⟨_, AB2⟩
  refine opW T2 (mkF m 74 #[rv a0, iv 1, iv c1, iv 0] [(.int c1), (.ref a2)]) (fun _ k => st' _ (XS.iloadN X2.here hx rfl (hb hby d4_73) rfl k)) ?_
  obtain ⟨cq6, kq6, qa6, qb6, qc6⟩ := isOf (s := s.setVm _) hZ e2 EX2
  obtain ⟨_, _, ⟨T6, L6, k6, n6⟩, -, X6', ⟨Lc6, hQ6, l6, y6, z6⟩, st'⟩ := X2.virtualBack hx (y := y18) (z := y18) hown (mvT hZ (ow hw 80 rfl)) (mvT hZ (ow hw 81 rfl)) (notFace_of_selects (args := #[]) (mvT hZ (ow hw 83 rfl))) (mvT hZ (ow hw 83 rfl)) (mvT hZ (ow hw 82 rfl)) (by decide) (backOf (W := 0) (rmio1 l Z aw hw [] c1 a2 b2 h2 n0 SZ2 EX2 FV2 FC2 f5 f4) hZ (ow hw 84 rfl) (ow hw 4 rfl) (by decide) (by decide)) qa6 qc6 (g := (mkF m 74 #[rv a0, iv 1, iv c1, iv 0] [(.int c1), (.ref a2)])) rfl (by rw [hml]; rfl) (Steps.refl _) (argsL := [(.int c1)]) (rest := []) (lenOf own_pd11 rfl) rfl (by show 2 * 0 + _ ≤ _; exact Nat.le_of_eq rfl) (hb hby d4_74) (fun _ _ => ⟨rfl, e2, (by decide : 4 + 0 ≤ _), (by decide : 128 + 0 ≤ _)⟩)
  dsimp only [Pt.U, Pt.locs, Pt.cells, Pt.slots] at X6' l6 y6 z6 st' hQ6
  subst l6 y6 z6
  obtain ⟨rfl, rfl, e6⟩ := hQ6
  have X6 : Stand p l e Qt2 _ m #[(.ref a0)] below meth c T6 _ 4 128 := own_locs X6'
  refine opW T6 (mkF m 77 #[rv a0, iv 1, iv c1, iv 0] [(.int (fio1_0 c1))]) (fun _ k => st'.trans k) ?_
  refine own_iteTW Rt2 (Kt2 Z c0 c1 a0 h0 n0) (fun hc77 => ?_) (fun hc77 => ?_)
  · skip
    refine opW T6 (mkF m 81 #[rv a0, iv 1, iv c1, iv 0] [(.int 0)]) (fun _ k => XS.ifNo X6.here hx rfl (hb hby d4_77) rfl ((if0 _ _).trans (tlt hc77).2.1) (XS.iconst X6.here hx rfl (hb hby d4_80) k)) ?_
    exact own_retW hS (by rw [e6]; exact hk) (w := (.int 0)) X6 hx Bd.notSynchronized Bd.returns rfl (Or.inl ⟨rfl, by simp, _, rfl⟩) (hb hby d4_81) (by rw [e6]; exact ⟨NF0, KP2⟩) (by decide) (by decide)
  · skip
    refine opW T6 (mkF m 82 #[rv a0, iv 1, iv c1, iv 0] []) (fun _ k => XS.ifYes X6.here hx rfl (pc0 := 77) (pc' := 82) rfl (hb hby d4_77) rfl ((if0 _ _).trans (flt hc77).2.1) (by decide) (by decide) k) ?_
    exact gt2_82b hw c0 c1 a0 (0 : Int32) Bd hml hZ hown hS T6 X6 e6 hk Cx2 SZ2 NF0 KP2 f3 f4
def ft2_61b (c0 c1 : Int32) : Int32 := (ft2_82b c0 c1)
set_option maxRecDepth 65536 in
set_option maxHeartbeats 40000000 in
theorem gt2_61b (hw : HW aw Z) {h0 : Heap} {n0 : Nat} (c0 c1 : Int32) (a0 : Addr) (x3 : Int32)
    (Bd : BodyLoose p l y28 (head1 (Jvm.Cond.code y28 Gd 4 (some .boolean) :: ws) Qt2) Gd 4 (some .boolean) e s m #[(.ref a0)] below meth c s₁) (hml : c.maxLocals = 4) {vm0 : Vm} {k0 : Nat} (hZ : Z.Warmed39 vm0) (hown : vm0.findClass cR = some m.cls) (hS : s.Since vm0 k0) (T0 : State) {locs : List Loc} (X0 : Stand p l e Qt2 (s.setVm vm0) m #[(.ref a0)] below meth c T0 locs 2 64) {h : Heap} (e0 : T0.heap = h) (hk : k0 ≤ h.size) (C0 : CHv Z consts_1 vm0 h) (SZ0 : n0 ≤ h.size) (NF0 : Fr n0 locs) (KP0 : Keep h0 h []) (W_a0 : own_S2 Z h n0 a0 c0 c1) (J0 : own_J Z h) :
    own_GoW p e below s Qt2.cells Qt2.slots (Rt2 (ft2_61b c0 c1)) (Kt2 Z c0 c1 a0 h0 n0 (ft2_61b c0 c1)) (T0.setTop (mkF m 61 #[rv a0, iv 1, iv c1, iv x3] [])) := by
  have hx := Bd.exec
  have hby := Bd.bytes
  have hnm := (name_of_methodNamed Bd.named Bd.method).1
  unfold ft2_61b
  refine opW T0 (mkF m 68 #[rv a0, iv 1, iv c1, iv 1] [(.int 1)]) (fun _ k => XS.iconst X0.here hx rfl (hb hby d4_61) (XS.goto X0.here hx rfl (pc0 := 62) (pc' := 66) rfl (hb hby d4_62) (by decide) (by decide) (XS.istoreN X0.here hx rfl (hb hby d4_66) rfl (l' := #[rv a0, iv 1, iv c1, iv 1]) rfl (XS.iloadN X0.here hx rfl (hb hby d4_67) rfl k)))) ?_
  have hd1 : ¬ ((1 : Int32) = (0 : Int32)) := by decide
  refine opW T0 (mkF m 82 #[rv a0, iv 1, iv c1, iv 1] []) (fun _ k => XS.ifYes X0.here hx rfl (pc0 := 68) (pc' := 82) rfl (hb hby d4_68) rfl ((if0 _ _).trans (feq hd1).2) (by decide) (by decide) k) ?_
  exact gt2_82b hw c0 c1 a0 (1 : Int32) Bd hml hZ hown hS T0 (X0.mono (by decide) (by decide)) e0 hk C0 SZ0 NF0 KP0 W_a0 J0
def ft2_82a (c0 c1 : Int32) : Int32 := (if c1 < (97 : Int32) then (if c1 < (65 : Int32) then (if c1 < (48 : Int32) then (ft2_65b c0 c1) else (if (57 : Int32) < c1 then (ft2_65b c0 c1) else (ft2_61b c0 c1))) else (if (90 : Int32) < c1 then (if c1 < (48 : Int32) then (ft2_65b c0 c1) else (if (57 : Int32) < c1 then (ft2_65b c0 c1) else (ft2_61b c0 c1))) else (ft2_61b c0 c1))) else (if (122 : Int32) < c1 then (if c1 < (65 : Int32) then (if c1 < (48 : Int32) then (ft2_65b c0 c1) else (if (57 : Int32) < c1 then (ft2_65b c0 c1) else (ft2_61b c0 c1))) else (if (90 : Int32) < c1 then (if c1 < (48 : Int32) then (ft2_65b c0 c1) else (if (57 : Int32) < c1 then (ft2_65b c0 c1) else (ft2_61b c0 c1))) else (ft2_61b c0 c1))) else (ft2_61b c0 c1)))
set_option maxRecDepth 65536 in
set_option maxHeartbeats 40000000 in
theorem gt2_82a (hw : HW aw Z) {h0 : Heap} {n0 : Nat} (c0 c1 : Int32) (a0 : Addr) (x3 : Int32)
    (Bd : BodyLoose p l y28 (head1 (Jvm.Cond.code y28 Gd 4 (some .boolean) :: ws) Qt2) Gd 4 (some .boolean) e s m #[(.ref a0)] below meth c s₁) (hml : c.maxLocals = 4) {vm0 : Vm} {k0 : Nat} (hZ : Z.Warmed39 vm0) (hown : vm0.findClass cR = some m.cls) (hS : s.Since vm0 k0) (T0 : State) {locs : List Loc} (X0 : Stand p l e Qt2 (s.setVm vm0) m #[(.ref a0)] below meth c T0 locs 2 64) {h : Heap} (e0 : T0.heap = h) (hk : k0 ≤ h.size) (C0 : CHv Z consts_1 vm0 h) (SZ0 : n0 ≤ h.size) (NF0 : Fr n0 locs) (KP0 : Keep h0 h []) (W_a0 : own_S2 Z h n0 a0 c0 c1) (J0 : own_J Z h) :
    own_GoW p e below s Qt2.cells Qt2.slots (Rt2 (ft2_82a c0 c1)) (Kt2 Z c0 c1 a0 h0 n0 (ft2_82a c0 c1)) (T0.setTop (mkF m 82 #[rv a0, iv 0, iv c0, iv x3] [])) := by
  have hx := Bd.exec
  have hby := Bd.bytes
  have hnm := (name_of_methodNamed Bd.named Bd.method).1
  unfold ft2_82a
  refine opW T0 (mkF m 13 #[rv a0, iv 1, iv c0, iv x3] [(.ref a0), (.int 1)]) (fun _ k => XS.iinc X0.here hx rfl (hb hby d4_82) rfl (l' := #[rv a0, iv 1, iv c0, iv x3]) rfl (XS.goto X0.here hx rfl (pc0 := 85) (pc' := 11) rfl (hb hby d4_85) (by decide) (by decide) (XS.iloadN X0.here hx rfl (hb hby d4_11) rfl (XS.aloadN X0.here hx rfl (hb hby d4_12) rfl rfl k)))) ?_
  have ex1 := own_S2.exa W_a0
  obtain ⟨cq1, kq1, qa1, qb1, qc1⟩ := isOf (s := s.setVm _) hZ e0 ex1
  obtain ⟨_, _, ⟨T1, L1, k1, n1⟩, -, X1', ⟨Lc1, hQ1, l1, y1, z1⟩, st'⟩ := X0.virtualBack hx (y := y9) (z := y9) hown (mvT hZ (ow hw 47 rfl)) (mvT hZ (ow hw 48 rfl)) (notFace_of_selects (args := #[]) (mvT hZ (ow hw 50 rfl))) (mvT hZ (ow hw 50 rfl)) (mvT hZ (ow hw 49 rfl)) (by decide) (backOf (W := 1) (rmlenw2 l Z aw hw [] c0 c1 a0 h n0 SZ0 W_a0 J0) hZ (ow hw 51 rfl) (ow hw 4 rfl) (by decide) (by decide)) qa1 qc1 (g := (mkF m 13 #[rv a0, iv 1, iv c0, iv x3] [(.ref a0), (.int 1)])) rfl (by rw [hml]; rfl) (Steps.refl _) (argsL := []) (rest := [(.int 1)]) (lenOf own_pd10 rfl) rfl (by show 2 * 0 + _ ≤ _; exact Nat.le_of_eq rfl) (hb hby d4_13) (fun _ _ => ⟨rfl, e0, (by decide : 2 + 0 ≤ _), (by decide : 64 + 0 ≤ _)⟩)
  dsimp only [Pt.U, Pt.locs, Pt.cells, Pt.slots] at X1' l1 y1 z1 st' hQ1
  subst l1 y1 z1
  obtain ⟨rfl, rfl, e1⟩ := hQ1
  have X1 : Stand p l e Qt2 _ m #[(.ref a0)] below meth c T1 _ 2 64 := own_locs X1'
  refine opW T1 (mkF m 16 #[rv a0, iv 1, iv c0, iv x3] [(.int 2), (.int 1)]) (fun _ k => st'.trans k) ?_
  have hd2 : (1 : Int32) < (2 : Int32) := by decide
  refine opW T1 (mkF m 21 #[rv a0, iv 1, iv c0, iv x3] [(.int 1), (.ref a0)]) (fun _ k => XS.icmpNo X1.here hx rfl (hb hby d4_16) rfl (tlt hd2).2.1 (XS.aloadN X1.here hx rfl (hb hby d4_19) rfl rfl (XS.iloadN X1.here hx rfl (hb hby d4_20) rfl k))) ?_
  have ex3 := own_S2.exa W_a0
  obtain ⟨cq3, kq3, qa3, qb3, qc3⟩ := isOf (s := s.setVm _) hZ e1 ex3
  obtain ⟨_, _, ⟨T3, L3, k3, n3⟩, -, X3', ⟨Lc3, hQ3, l3, y3, z3⟩, st'⟩ := X1.virtualBack hx (y := y11) (z := y11) hown (mvT hZ (ow hw 57 rfl)) (mvT hZ (ow hw 58 rfl)) (notFace_of_selects (args := #[]) (mvT hZ (ow hw 60 rfl))) (mvT hZ (ow hw 60 rfl)) (mvT hZ (ow hw 59 rfl)) (by decide) (backOf (W := 0) (rmchw21 l Z aw hw [] c0 c1 a0 h n0 SZ0 W_a0 J0) hZ (ow hw 61 rfl) (ow hw 4 rfl) (by decide) (by decide)) qa3 qc3 (g := (mkF m 21 #[rv a0, iv 1, iv c0, iv x3] [(.int 1), (.ref a0)])) rfl (by rw [hml]; rfl) (Steps.refl _) (argsL := [(.int 1)]) (rest := []) (lenOf own_pd18 rfl) rfl (by show 2 * 0 + _ ≤ _; exact Nat.le_of_eq rfl) (hb hby d4_21) (fun _ _ => ⟨rfl, e1, (by decide : 2 + 0 ≤ _), (by decide : 64 + 0 ≤ _)⟩)
  dsimp only [Pt.U, Pt.locs, Pt.cells, Pt.slots] at X3' l3 y3 z3 st' hQ3
  subst l3 y3 z3
  obtain ⟨rfl, rfl, e3⟩ := hQ3
  have X3 : Stand p l e Qt2 _ m #[(.ref a0)] below meth c T3 _ 2 64 := own_locs X3'
  refine opW T3 (mkF m 28 #[rv a0, iv 1, iv c1, iv x3] [(.int 97), (.int c1)]) (fun _ k => st'.trans (XS.istoreN X3.here hx rfl (hb hby d4_24) rfl (l' := #[rv a0, iv 1, iv c1, iv x3]) rfl (XS.iloadN X3.here hx rfl (hb hby d4_25) rfl (XS.bipush X3.here hx rfl (hb hby d4_26) k)))) ?_
  refine own_iteTW Rt2 (Kt2 Z c0 c1 a0 h0 n0) (fun hc28 => ?_) (fun hc28 => ?_)
  · skip
    refine opW T3 (mkF m 40 #[rv a0, iv 1, iv c1, iv x3] [(.int 65), (.int c1)]) (fun _ k => XS.icmpYes X3.here hx rfl (pc0 := 28) (pc' := 37) rfl (hb hby d4_28) rfl (tlt hc28).1 (by decide) (by decide) (XS.iloadN X3.here hx rfl (hb hby d4_37) rfl (XS.bipush X3.here hx rfl (hb hby d4_38) k))) ?_
    refine own_iteTW Rt2 (Kt2 Z c0 c1 a0 h0 n0) (fun hc40 => ?_) (fun hc40 => ?_)
    · skip
      refine opW T3 (mkF m 52 #[rv a0, iv 1, iv c1, iv x3] [(.int 48), (.int c1)]) (fun _ k => XS.icmpYes X3.here hx rfl (pc0 := 40) (pc' := 49) rfl (hb hby d4_40) rfl (tlt hc40).1 (by decide) (by decide) (XS.iloadN X3.here hx rfl (hb hby d4_49) rfl (XS.bipush X3.here hx rfl (hb hby d4_50) k))) ?_
      refine own_iteTW Rt2 (Kt2 Z c0 c1 a0 h0 n0) (fun hc52 => ?_) (fun hc52 => ?_)
      · skip
        refine opW T3 (mkF m 65 #[rv a0, iv 1, iv c1, iv x3] []) (fun _ k => XS.icmpYes X3.here hx rfl (pc0 := 52) (pc' := 65) rfl (hb hby d4_52) rfl (tlt hc52).1 (by decide) (by decide) k) ?_
        exact gt2_65b hw c0 c1 a0 x3 Bd hml hZ hown hS T3 X3 e3 hk C0 SZ0 NF0 KP0 W_a0 J0
      · skip
        refine opW T3 (mkF m 58 #[rv a0, iv 1, iv c1, iv x3] [(.int 57), (.int c1)]) (fun _ k => XS.icmpNo X3.here hx rfl (hb hby d4_52) rfl (flt hc52).1 (XS.iloadN X3.here hx rfl (hb hby d4_55) rfl (XS.bipush X3.here hx rfl (hb hby d4_56) k))) ?_
        refine own_iteTW Rt2 (Kt2 Z c0 c1 a0 h0 n0) (fun hc58 => ?_) (fun hc58 => ?_)
        · skip
          refine opW T3 (mkF m 65 #[rv a0, iv 1, iv c1, iv x3] []) (fun _ k => XS.icmpYes X3.here hx rfl (pc0 := 58) (pc' := 65) rfl (hb hby d4_58) rfl (tlt hc58).2.2.1 (by decide) (by decide) k) ?_
          exact gt2_65b hw c0 c1 a0 x3 Bd hml hZ hown hS T3 X3 e3 hk C0 SZ0 NF0 KP0 W_a0 J0
        · skip
          refine opW T3 (mkF m 61 #[rv a0, iv 1, iv c1, iv x3] []) (fun _ k => XS.icmpNo X3.here hx rfl (hb hby d4_58) rfl (flt hc58).2.2.1 k) ?_
          exact gt2_61b hw c0 c1 a0 x3 Bd hml hZ hown hS T3 X3 e3 hk C0 SZ0 NF0 KP0 W_a0 J0
    · skip
      refine opW T3 (mkF m 46 #[rv a0, iv 1, iv c1, iv x3] [(.int 90), (.int c1)]) (fun _ k => XS.icmpNo X3.here hx rfl (hb hby d4_40) rfl (flt hc40).1 (XS.iloadN X3.here hx rfl (hb hby d4_43) rfl (XS.bipush X3.here hx rfl (hb hby d4_44) k))) ?_
      refine own_iteTW Rt2 (Kt2 Z c0 c1 a0 h0 n0) (fun hc46 => ?_) (fun hc46 => ?_)
      · skip
        refine opW T3 (mkF m 52 #[rv a0, iv 1, iv c1, iv x3] [(.int 48), (.int c1)]) (fun _ k => XS.icmpNo X3.here hx rfl (hb hby d4_46) rfl (tlt hc46).2.2.2 (XS.iloadN X3.here hx rfl (hb hby d4_49) rfl (XS.bipush X3.here hx rfl (hb hby d4_50) k))) ?_
        refine own_iteTW Rt2 (Kt2 Z c0 c1 a0 h0 n0) (fun hc52 => ?_) (fun hc52 => ?_)
        · skip
          refine opW T3 (mkF m 65 #[rv a0, iv 1, iv c1, iv x3] []) (fun _ k => XS.icmpYes X3.here hx rfl (pc0 := 52) (pc' := 65) rfl (hb hby d4_52) rfl (tlt hc52).1 (by decide) (by decide) k) ?_
          exact gt2_65b hw c0 c1 a0 x3 Bd hml hZ hown hS T3 X3 e3 hk C0 SZ0 NF0 KP0 W_a0 J0
        · skip
          refine opW T3 (mkF m 58 #[rv a0, iv 1, iv c1, iv x3] [(.int 57), (.int c1)]) (fun _ k => XS.icmpNo X3.here hx rfl (hb hby d4_52) rfl (flt hc52).1 (XS.iloadN X3.here hx rfl (hb hby d4_55) rfl (XS.bipush X3.here hx rfl (hb hby d4_56) k))) ?_
          refine own_iteTW Rt2 (Kt2 Z c0 c1 a0 h0 n0) (fun hc58 => ?_) (fun hc58 => ?_)
          · skip
            refine opW T3 (mkF m 65 #[rv a0, iv 1, iv c1, iv x3] []) (fun _ k => XS.icmpYes X3.here hx rfl (pc0 := 58) (pc' := 65) rfl (hb hby d4_58) rfl (tlt hc58).2.2.1 (by decide) (by decide) k) ?_
            exact gt2_65b hw c0 c1 a0 x3 Bd hml hZ hown hS T3 X3 e3 hk C0 SZ0 NF0 KP0 W_a0 J0
          · skip
            refine opW T3 (mkF m 61 #[rv a0, iv 1, iv c1, iv x3] []) (fun _ k => XS.icmpNo X3.here hx rfl (hb hby d4_58) rfl (flt hc58).2.2.1 k) ?_
            exact gt2_61b hw c0 c1 a0 x3 Bd hml hZ hown hS T3 X3 e3 hk C0 SZ0 NF0 KP0 W_a0 J0
      · skip
        refine opW T3 (mkF m 61 #[rv a0, iv 1, iv c1, iv x3] []) (fun _ k => XS.icmpYes X3.here hx rfl (pc0 := 46) (pc' := 61) rfl (hb hby d4_46) rfl (flt hc46).2.2.2 (by decide) (by decide) k) ?_
        exact gt2_61b hw c0 c1 a0 x3 Bd hml hZ hown hS T3 X3 e3 hk C0 SZ0 NF0 KP0 W_a0 J0
  · skip
    refine opW T3 (mkF m 34 #[rv a0, iv 1, iv c1, iv x3] [(.int 122), (.int c1)]) (fun _ k => XS.icmpNo X3.here hx rfl (hb hby d4_28) rfl (flt hc28).1 (XS.iloadN X3.here hx rfl (hb hby d4_31) rfl (XS.bipush X3.here hx rfl (hb hby d4_32) k))) ?_
    refine own_iteTW Rt2 (Kt2 Z c0 c1 a0 h0 n0) (fun hc34 => ?_) (fun hc34 => ?_)
    · skip
      refine opW T3 (mkF m 40 #[rv a0, iv 1, iv c1, iv x3] [(.int 65), (.int c1)]) (fun _ k => XS.icmpNo X3.here hx rfl (hb hby d4_34) rfl (tlt hc34).2.2.2 (XS.iloadN X3.here hx rfl (hb hby d4_37) rfl (XS.bipush X3.here hx rfl (hb hby d4_38) k))) ?_
      refine own_iteTW Rt2 (Kt2 Z c0 c1 a0 h0 n0) (fun hc40 => ?_) (fun hc40 => ?_)
      · skip
        refine opW T3 (mkF m 52 #[rv a0, iv 1, iv c1, iv x3] [(.int 48), (.int c1)]) (fun _ k => XS.icmpYes X3.here hx rfl (pc0 := 40) (pc' := 49) rfl (hb hby d4_40) rfl (tlt hc40).1 (by decide) (by decide) (XS.iloadN X3.here hx rfl (hb hby d4_49) rfl (XS.bipush X3.here hx rfl (hb hby d4_50) k))) ?_
        refine own_iteTW Rt2 (Kt2 Z c0 c1 a0 h0 n0) (fun hc52 => ?_) (fun hc52 => ?_)
        · skip
          refine opW T3 (mkF m 65 #[rv a0, iv 1, iv c1, iv x3] []) (fun _ k => XS.icmpYes X3.here hx rfl (pc0 := 52) (pc' := 65) rfl (hb hby d4_52) rfl (tlt hc52).1 (by decide) (by decide) k) ?_
          exact gt2_65b hw c0 c1 a0 x3 Bd hml hZ hown hS T3 X3 e3 hk C0 SZ0 NF0 KP0 W_a0 J0
        · skip
          refine opW T3 (mkF m 58 #[rv a0, iv 1, iv c1, iv x3] [(.int 57), (.int c1)]) (fun _ k => XS.icmpNo X3.here hx rfl (hb hby d4_52) rfl (flt hc52).1 (XS.iloadN X3.here hx rfl (hb hby d4_55) rfl (XS.bipush X3.here hx rfl (hb hby d4_56) k))) ?_
          refine own_iteTW Rt2 (Kt2 Z c0 c1 a0 h0 n0) (fun hc58 => ?_) (fun hc58 => ?_)
          · skip
            refine opW T3 (mkF m 65 #[rv a0, iv 1, iv c1, iv x3] []) (fun _ k => XS.icmpYes X3.here hx rfl (pc0 := 58) (pc' := 65) rfl (hb hby d4_58) rfl (tlt hc58).2.2.1 (by decide) (by decide) k) ?_
            exact gt2_65b hw c0 c1 a0 x3 Bd hml hZ hown hS T3 X3 e3 hk C0 SZ0 NF0 KP0 W_a0 J0
          · skip
            refine opW T3 (mkF m 61 #[rv a0, iv 1, iv c1, iv x3] []) (fun _ k => XS.icmpNo X3.here hx rfl (hb hby d4_58) rfl (flt hc58).2.2.1 k) ?_
            exact gt2_61b hw c0 c1 a0 x3 Bd hml hZ hown hS T3 X3 e3 hk C0 SZ0 NF0 KP0 W_a0 J0
      · skip
        refine opW T3 (mkF m 46 #[rv a0, iv 1, iv c1, iv x3] [(.int 90), (.int c1)]) (fun _ k => XS.icmpNo X3.here hx rfl (hb hby d4_40) rfl (flt hc40).1 (XS.iloadN X3.here hx rfl (hb hby d4_43) rfl (XS.bipush X3.here hx rfl (hb hby d4_44) k))) ?_
        refine own_iteTW Rt2 (Kt2 Z c0 c1 a0 h0 n0) (fun hc46 => ?_) (fun hc46 => ?_)
        · skip
          refine opW T3 (mkF m 52 #[rv a0, iv 1, iv c1, iv x3] [(.int 48), (.int c1)]) (fun _ k => XS.icmpNo X3.here hx rfl (hb hby d4_46) rfl (tlt hc46).2.2.2 (XS.iloadN X3.here hx rfl (hb hby d4_49) rfl (XS.bipush X3.here hx rfl (hb hby d4_50) k))) ?_
          refine own_iteTW Rt2 (Kt2 Z c0 c1 a0 h0 n0) (fun hc52 => ?_) (fun hc52 => ?_)
          · skip
            refine opW T3 (mkF m 65 #[rv a0, iv 1, iv c1, iv x3] []) (fun _ k => XS.icmpYes X3.here hx rfl (pc0 := 52) (pc' := 65) rfl (hb hby d4_52) rfl (tlt hc52).1 (by decide) (by decide) k) ?_
            exact gt2_65b hw c0 c1 a0 x3 Bd hml hZ hown hS T3 X3 e3 hk C0 SZ0 NF0 KP0 W_a0 J0
          · skip
            refine opW T3 (mkF m 58 #[rv a0, iv 1, iv c1, iv x3] [(.int 57), (.int c1)]) (fun _ k => XS.icmpNo X3.here hx rfl (hb hby d4_52) rfl (flt hc52).1 (XS.iloadN X3.here hx rfl (hb hby d4_55) rfl (XS.bipush X3.here hx rfl (hb hby d4_56) k))) ?_
            refine own_iteTW Rt2 (Kt2 Z c0 c1 a0 h0 n0) (fun hc58 => ?_) (fun hc58 => ?_)
            · skip
              refine opW T3 (mkF m 65 #[rv a0, iv 1, iv c1, iv x3] []) (fun _ k => XS.icmpYes X3.here hx rfl (pc0 := 58) (pc' := 65) rfl (hb hby d4_58) rfl (tlt hc58).2.2.1 (by decide) (by decide) k) ?_
              exact gt2_65b hw c0 c1 a0 x3 Bd hml hZ hown hS T3 X3 e3 hk C0 SZ0 NF0 KP0 W_a0 J0
            · skip
              refine opW T3 (mkF m 61 #[rv a0, iv 1, iv c1, iv x3] []) (fun _ k => XS.icmpNo X3.here hx rfl (hb hby d4_58) rfl (flt hc58).2.2.1 k) ?_
              exact gt2_61b hw c0 c1 a0 x3 Bd hml hZ hown hS T3 X3 e3 hk C0 SZ0 NF0 KP0 W_a0 J0
        · skip
          refine opW T3 (mkF m 61 #[rv a0, iv 1, iv c1, iv x3] []) (fun _ k => XS.icmpYes X3.here hx rfl (pc0 := 46) (pc' := 61) rfl (hb hby d4_46) rfl (flt hc46).2.2.2 (by decide) (by decide) k) ?_
          exact gt2_61b hw c0 c1 a0 x3 Bd hml hZ hown hS T3 X3 e3 hk C0 SZ0 NF0 KP0 W_a0 J0
    · skip
      refine opW T3 (mkF m 61 #[rv a0, iv 1, iv c1, iv x3] []) (fun _ k => XS.icmpYes X3.here hx rfl (pc0 := 34) (pc' := 61) rfl (hb hby d4_34) rfl (flt hc34).2.2.2 (by decide) (by decide) k) ?_
      exact gt2_61b hw c0 c1 a0 x3 Bd hml hZ hown hS T3 X3 e3 hk C0 SZ0 NF0 KP0 W_a0 J0
def ft2_65a (c0 c1 : Int32) : Int32 := (if (fio1_0 c0) < (0 : Int32) then (0 : Int32) else (ft2_82a c0 c1))
set_option maxRecDepth 65536 in
set_option maxHeartbeats 40000000 in
theorem gt2_65a (hw : HW aw Z) {h0 : Heap} {n0 : Nat} (c0 c1 : Int32) (a0 : Addr)
    (Bd : BodyLoose p l y28 (head1 (Jvm.Cond.code y28 Gd 4 (some .boolean) :: ws) Qt2) Gd 4 (some .boolean) e s m #[(.ref a0)] below meth c s₁) (hml : c.maxLocals = 4) {vm0 : Vm} {k0 : Nat} (hZ : Z.Warmed39 vm0) (hown : vm0.findClass cR = some m.cls) (hS : s.Since vm0 k0) (T0 : State) {locs : List Loc} (X0 : Stand p l e Qt2 (s.setVm vm0) m #[(.ref a0)] below meth c T0 locs 0 0) {h : Heap} (e0 : T0.heap = h) (hk : k0 ≤ h.size) (C0 : CHv Z consts_1 vm0 h) (SZ0 : n0 ≤ h.size) (NF0 : Fr n0 locs) (KP0 : Keep h0 h []) (W_a0 : own_S2 Z h n0 a0 c0 c1) (J0 : own_J Z h) :
    own_GoW p e below s Qt2.cells Qt2.slots (Rt2 (ft2_65a c0 c1)) (Kt2 Z c0 c1 a0 h0 n0 (ft2_65a c0 c1)) (T0.setTop (mkF m 65 #[rv a0, iv 0, iv c0, uu] [])) := by
  have hx := Bd.exec
  have hby := Bd.bytes
  have hnm := (name_of_methodNamed Bd.named Bd.method).1
  unfold ft2_65a
  refine opW T0 (mkF m 68 #[rv a0, iv 0, iv c0, iv 0] [(.int 0)]) (fun _ k => XS.iconst X0.here hx rfl (hb hby d4_65) (XS.istoreN X0.here hx rfl (hb hby d4_66) rfl (l' := #[rv a0, iv 0, iv c0, iv 0]) rfl (XS.iloadN X0.here hx rfl (hb hby d4_67) rfl k))) ?_
  have hd1 : (0 : Int32) = (0 : Int32) := by decide
  refine opW T0 (mkF m 71 #[rv a0, iv 0, iv c0, iv 0] []) (fun _ k => XS.ifNo X0.here hx rfl (hb hby d4_68) rfl ((if0 _ _).trans (teq hd1).2) k) ?_
  obtain ⟨a2, T2, h2, kk2, b2, kb2, X2, e2, E2, hS, hk, hZ, hown, EX2, FC2, FV2, AB2, -, -, CR2, LT2, -, st'⟩ := ldcCH X0 hx hZ hown (ow hw 79 rfl) (own_wS hw) e0 hS hk (own_EW hw) (List.mem_of_getElem? (i := 0) rfl) C0 (vs := [(33 : Int32), (35 : Int32), (36 : Int32), (37 : Int32), (38 : Int32), (39 : Int32), (42 : Int32), (43 : Int32), (45 : Int32), (46 : Int32), (94 : Int32), (95 : Int32), (96 : Int32), (124 : Int32), (126 : Int32)].map Value.int) (z := 15) ⟨by decide, by decide⟩ (by decide) (by decide) (g := (mkF m 71 #[rv a0, iv 0, iv c0, iv 0] [])) rfl (hb hby d4_71) (n := 60) (by decide) (by decide) (by decide) (by decide)
  have SZ2 : n0 ≤ h2.size := Nat.le_trans SZ0 E2.1
  have KP2 := KP0.ext E2
  have Cx2 := CR2.1
  have f3 := W_a0.ext E2
  have f4 := own_J.ext J0 E2
  have f5 : own_Pv Z h2 b2 (15 : Int32) [(33 : Int32), (35 : Int32), (36 : Int32), (37 : Int32), (38 : Int32), (39 : Int32), (42 : Int32), (43 : Int32), (45 : Int32), (46 : Int32), (94 : Int32), (95 : Int32), (96 : Int32), (124 : Int32), (126 : Int32)] .byte := ⟨_, AB2⟩
  refine opW T2 (mkF m 74 #[rv a0, iv 0, iv c0, iv 0] [(.int c0), (.ref a2)]) (fun _ k => st' _ (XS.iloadN X2.here hx rfl (hb hby d4_73) rfl k)) ?_
  obtain ⟨cq6, kq6, qa6, qb6, qc6⟩ := isOf (s := s.setVm _) hZ e2 EX2
  obtain ⟨_, _, ⟨T6, L6, k6, n6⟩, -, X6', ⟨Lc6, hQ6, l6, y6, z6⟩, st'⟩ := X2.virtualBack hx (y := y18) (z := y18) hown (mvT hZ (ow hw 80 rfl)) (mvT hZ (ow hw 81 rfl)) (notFace_of_selects (args := #[]) (mvT hZ (ow hw 83 rfl))) (mvT hZ (ow hw 83 rfl)) (mvT hZ (ow hw 82 rfl)) (by decide) (backOf (W := 0) (rmio1 l Z aw hw [] c0 a2 b2 h2 n0 SZ2 EX2 FV2 FC2 f5 f4) hZ (ow hw 84 rfl) (ow hw 4 rfl) (by decide) (by decide)) qa6 qc6 (g := (mkF m 74 #[rv a0, iv 0, iv c0, iv 0] [(.int c0), (.ref a2)])) rfl (by rw [hml]; rfl) (Steps.refl _) (argsL := [(.int c0)]) (rest := []) (lenOf own_pd11 rfl) rfl (by show 2 * 0 + _ ≤ _; exact Nat.le_of_eq rfl) (hb hby d4_74) (fun _ _ => ⟨rfl, e2, (by decide : 2 + 0 ≤ _), (by decide : 64 + 0 ≤ _)⟩)
  dsimp only [Pt.U, Pt.locs, Pt.cells, Pt.slots] at X6' l6 y6 z6 st' hQ6
  subst l6 y6 z6
  obtain ⟨rfl, rfl, e6⟩ := hQ6
  have X6 : Stand p l e Qt2 _ m #[(.ref a0)] below meth c T6 _ 2 64 := own_locs X6'
  refine opW T6 (mkF m 77 #[rv a0, iv 0, iv c0, iv 0] [(.int (fio1_0 c0))]) (fun _ k => st'.trans k) ?_
  refine own_iteTW Rt2 (Kt2 Z c0 c1 a0 h0 n0) (fun hc77 => ?_) (fun hc77 => ?_)
  · skip
    refine opW T6 (mkF m 81 #[rv a0, iv 0, iv c0, iv 0] [(.int 0)]) (fun _ k => XS.ifNo X6.here hx rfl (hb hby d4_77) rfl ((if0 _ _).trans (tlt hc77).2.1) (XS.iconst X6.here hx rfl (hb hby d4_80) k)) ?_
    exact own_retW hS (by rw [e6]; exact hk) (w := (.int 0)) X6 hx Bd.notSynchronized Bd.returns rfl (Or.inl ⟨rfl, by simp, _, rfl⟩) (hb hby d4_81) (by rw [e6]; exact ⟨NF0, KP2⟩) (by decide) (by decide)
  · skip
    refine opW T6 (mkF m 82 #[rv a0, iv 0, iv c0, iv 0] []) (fun _ k => XS.ifYes X6.here hx rfl (pc0 := 77) (pc' := 82) rfl (hb hby d4_77) rfl ((if0 _ _).trans (flt hc77).2.1) (by decide) (by decide) k) ?_
    exact gt2_82a hw c0 c1 a0 (0 : Int32) Bd hml hZ hown hS T6 X6 e6 hk Cx2 SZ2 NF0 KP2 f3 f4
def ft2_61a (c0 c1 : Int32) : Int32 := (ft2_82a c0 c1)
set_option maxRecDepth 65536 in
set_option maxHeartbeats 40000000 in
theorem gt2_61a (hw : HW aw Z) {h0 : Heap} {n0 : Nat} (c0 c1 : Int32) (a0 : Addr)
    (Bd : BodyLoose p l y28 (head1 (Jvm.Cond.code y28 Gd 4 (some .boolean) :: ws) Qt2) Gd 4 (some .boolean) e s m #[(.ref a0)] below meth c s₁) (hml : c.maxLocals = 4) {vm0 : Vm} {k0 : Nat} (hZ : Z.Warmed39 vm0) (hown : vm0.findClass cR = some m.cls) (hS : s.Since vm0 k0) (T0 : State) {locs : List Loc} (X0 : Stand p l e Qt2 (s.setVm vm0) m #[(.ref a0)] below meth c T0 locs 0 0) {h : Heap} (e0 : T0.heap = h) (hk : k0 ≤ h.size) (C0 : CHv Z consts_1 vm0 h) (SZ0 : n0 ≤ h.size) (NF0 : Fr n0 locs) (KP0 : Keep h0 h []) (W_a0 : own_S2 Z h n0 a0 c0 c1) (J0 : own_J Z h) :
    own_GoW p e below s Qt2.cells Qt2.slots (Rt2 (ft2_61a c0 c1)) (Kt2 Z c0 c1 a0 h0 n0 (ft2_61a c0 c1)) (T0.setTop (mkF m 61 #[rv a0, iv 0, iv c0, uu] [])) := by
  have hx := Bd.exec
  have hby := Bd.bytes
  have hnm := (name_of_methodNamed Bd.named Bd.method).1
  unfold ft2_61a
  refine opW T0 (mkF m 68 #[rv a0, iv 0, iv c0, iv 1] [(.int 1)]) (fun _ k => XS.iconst X0.here hx rfl (hb hby d4_61) (XS.goto X0.here hx rfl (pc0 := 62) (pc' := 66) rfl (hb hby d4_62) (by decide) (by decide) (XS.istoreN X0.here hx rfl (hb hby d4_66) rfl (l' := #[rv a0, iv 0, iv c0, iv 1]) rfl (XS.iloadN X0.here hx rfl (hb hby d4_67) rfl k)))) ?_
  have hd1 : ¬ ((1 : Int32) = (0 : Int32)) := by decide
  refine opW T0 (mkF m 82 #[rv a0, iv 0, iv c0, iv 1] []) (fun _ k => XS.ifYes X0.here hx rfl (pc0 := 68) (pc' := 82) rfl (hb hby d4_68) rfl ((if0 _ _).trans (feq hd1).2) (by decide) (by decide) k) ?_
  exact gt2_82a hw c0 c1 a0 (1 : Int32) Bd hml hZ hown hS T0 (X0.mono (by decide) (by decide)) e0 hk C0 SZ0 NF0 KP0 W_a0 J0
def ft2_0 (c0 c1 : Int32) : Int32 := (if c0 < (97 : Int32) then (if c0 < (65 : Int32) then (if c0 < (48 : Int32) then (ft2_65a c0 c1) else (if (57 : Int32) < c0 then (ft2_65a c0 c1) else (ft2_61a c0 c1))) else (if (90 : Int32) < c0 then (if c0 < (48 : Int32) then (ft2_65a c0 c1) else (if (57 : Int32) < c0 then (ft2_65a c0 c1) else (ft2_61a c0 c1))) else (ft2_61a c0 c1))) else (if (122 : Int32) < c0 then (if c0 < (65 : Int32) then (if c0 < (48 : Int32) then (ft2_65a c0 c1) else (if (57 : Int32) < c0 then (ft2_65a c0 c1) else (ft2_61a c0 c1))) else (if (90 : Int32) < c0 then (if c0 < (48 : Int32) then (ft2_65a c0 c1) else (if (57 : Int32) < c0 then (ft2_65a c0 c1) else (ft2_61a c0 c1))) else (ft2_61a c0 c1))) else (ft2_61a c0 c1)))
set_option maxRecDepth 65536 in
set_option maxHeartbeats 40000000 in
theorem gt2_0 (hw : HW aw Z) {h0 : Heap} {n0 : Nat} (c0 c1 : Int32) (a0 : Addr)
    (Bd : BodyLoose p l y28 (head1 (Jvm.Cond.code y28 Gd 4 (some .boolean) :: ws) Qt2) Gd 4 (some .boolean) e s m #[(.ref a0)] below meth c s₁) (hml : c.maxLocals = 4) {vm0 : Vm} {k0 : Nat} (hZ : Z.Warmed39 vm0) (hown : vm0.findClass cR = some m.cls) (hS : s.Since vm0 k0) (T0 : State) {locs : List Loc} (X0 : Stand p l e Qt2 (s.setVm vm0) m #[(.ref a0)] below meth c T0 locs 0 0) (e0 : T0.heap = h0) (hk : k0 ≤ h0.size) (C0 : CHv Z consts_1 vm0 h0) (SZ0 : n0 ≤ h0.size) (NF0 : Fr n0 locs) (KP0 : Keep h0 h0 []) (W_a0 : own_S2 Z h0 n0 a0 c0 c1) (J0 : own_J Z h0) :
    own_GoW p e below s Qt2.cells Qt2.slots (Rt2 (ft2_0 c0 c1)) (Kt2 Z c0 c1 a0 h0 n0 (ft2_0 c0 c1)) (T0.setTop (mkF m 0 #[rv a0, uu, uu, uu] [])) := by
  have hx := Bd.exec
  have hby := Bd.bytes
  have hnm := (name_of_methodNamed Bd.named Bd.method).1
  unfold ft2_0
  refine opW T0 (mkF m 1 #[rv a0, uu, uu, uu] [(.ref a0)]) (fun _ k => XS.aloadN X0.here hx rfl (hb hby d4_0) rfl rfl k) ?_
  have ex1 := own_S2.exa W_a0
  obtain ⟨cq1, kq1, qa1, qb1, qc1⟩ := isOf (s := s.setVm _) hZ e0 ex1
  obtain ⟨_, _, ⟨T1, L1, k1, n1⟩, -, X1', ⟨Lc1, hQ1, l1, y1, z1⟩, st'⟩ := X0.virtualBack hx (y := y10) (z := y10) hown (mvT hZ (ow hw 27 rfl)) (mvT hZ (ow hw 28 rfl)) (notFace_of_selects (args := #[]) (mvT hZ (ow hw 30 rfl))) (mvT hZ (ow hw 30 rfl)) (mvT hZ (ow hw 29 rfl)) (by decide) (backOf (W := 0) (rmiew2 l Z aw hw [] c0 c1 a0 h0 n0 SZ0 W_a0) hZ (ow hw 31 rfl) (ow hw 4 rfl) (by decide) (by decide)) qa1 qc1 (g := (mkF m 1 #[rv a0, uu, uu, uu] [(.ref a0)])) rfl (by rw [hml]; rfl) (Steps.refl _) (argsL := []) (rest := []) (lenOf own_pd6 rfl) rfl (by show 2 * 0 + _ ≤ _; exact Nat.le_of_eq rfl) (hb hby d4_1) (fun _ _ => ⟨rfl, e0, (by decide : 0 + 0 ≤ _), (by decide : 0 + 0 ≤ _)⟩)
  dsimp only [Pt.U, Pt.locs, Pt.cells, Pt.slots] at X1' l1 y1 z1 st' hQ1
  subst l1 y1 z1
  obtain ⟨rfl, rfl, e1⟩ := hQ1
  have X1 : Stand p l e Qt2 _ m #[(.ref a0)] below meth c T1 _ 0 0 := own_locs X1'
  refine opW T1 (mkF m 4 #[rv a0, uu, uu, uu] [(.int 0)]) (fun _ k => st'.trans k) ?_
  have hd2 : (0 : Int32) = (0 : Int32) := by decide
  refine opW T1 (mkF m 13 #[rv a0, iv 0, uu, uu] [(.ref a0), (.int 0)]) (fun _ k => XS.ifYes X1.here hx rfl (pc0 := 4) (pc' := 9) rfl (hb hby d4_4) rfl ((if0 _ _).trans (teq hd2).1) (by decide) (by decide) (XS.iconst X1.here hx rfl (hb hby d4_9) (XS.istoreN X1.here hx rfl (hb hby d4_10) rfl (l' := #[rv a0, iv 0, uu, uu]) rfl (XS.iloadN X1.here hx rfl (hb hby d4_11) rfl (XS.aloadN X1.here hx rfl (hb hby d4_12) rfl rfl k))))) ?_
  have ex3 := own_S2.exa W_a0
  obtain ⟨cq3, kq3, qa3, qb3, qc3⟩ := isOf (s := s.setVm _) hZ e1 ex3
  obtain ⟨_, _, ⟨T3, L3, k3, n3⟩, -, X3', ⟨Lc3, hQ3, l3, y3, z3⟩, st'⟩ := X1.virtualBack hx (y := y9) (z := y9) hown (mvT hZ (ow hw 47 rfl)) (mvT hZ (ow hw 48 rfl)) (notFace_of_selects (args := #[]) (mvT hZ (ow hw 50 rfl))) (mvT hZ (ow hw 50 rfl)) (mvT hZ (ow hw 49 rfl)) (by decide) (backOf (W := 1) (rmlenw2 l Z aw hw [] c0 c1 a0 h0 n0 SZ0 W_a0 J0) hZ (ow hw 51 rfl) (ow hw 4 rfl) (by decide) (by decide)) qa3 qc3 (g := (mkF m 13 #[rv a0, iv 0, uu, uu] [(.ref a0), (.int 0)])) rfl (by rw [hml]; rfl) (Steps.refl _) (argsL := []) (rest := [(.int 0)]) (lenOf own_pd10 rfl) rfl (by show 2 * 0 + _ ≤ _; exact Nat.le_of_eq rfl) (hb hby d4_13) (fun _ _ => ⟨rfl, e1, (by decide : 0 + 0 ≤ _), (by decide : 0 + 0 ≤ _)⟩)
  dsimp only [Pt.U, Pt.locs, Pt.cells, Pt.slots] at X3' l3 y3 z3 st' hQ3
  subst l3 y3 z3
  obtain ⟨rfl, rfl, e3⟩ := hQ3
  have X3 : Stand p l e Qt2 _ m #[(.ref a0)] below meth c T3 _ 0 0 := own_locs X3'
  refine opW T3 (mkF m 16 #[rv a0, iv 0, uu, uu] [(.int 2), (.int 0)]) (fun _ k => st'.trans k) ?_
  have hd4 : (0 : Int32) < (2 : Int32) := by decide
  refine opW T3 (mkF m 21 #[rv a0, iv 0, uu, uu] [(.int 0), (.ref a0)]) (fun _ k => XS.icmpNo X3.here hx rfl (hb hby d4_16) rfl (tlt hd4).2.1 (XS.aloadN X3.here hx rfl (hb hby d4_19) rfl rfl (XS.iloadN X3.here hx rfl (hb hby d4_20) rfl k))) ?_
  have ex5 := own_S2.exa W_a0
  obtain ⟨cq5, kq5, qa5, qb5, qc5⟩ := isOf (s := s.setVm _) hZ e3 ex5
  obtain ⟨_, _, ⟨T5, L5, k5, n5⟩, -, X5', ⟨Lc5, hQ5, l5, y5, z5⟩, st'⟩ := X3.virtualBack hx (y := y11) (z := y11) hown (mvT hZ (ow hw 57 rfl)) (mvT hZ (ow hw 58 rfl)) (notFace_of_selects (args := #[]) (mvT hZ (ow hw 60 rfl))) (mvT hZ (ow hw 60 rfl)) (mvT hZ (ow hw 59 rfl)) (by decide) (backOf (W := 0) (rmchw20 l Z aw hw [] c0 c1 a0 h0 n0 SZ0 W_a0 J0) hZ (ow hw 61 rfl) (ow hw 4 rfl) (by decide) (by decide)) qa5 qc5 (g := (mkF m 21 #[rv a0, iv 0, uu, uu] [(.int 0), (.ref a0)])) rfl (by rw [hml]; rfl) (Steps.refl _) (argsL := [(.int 0)]) (rest := []) (lenOf own_pd18 rfl) rfl (by show 2 * 0 + _ ≤ _; exact Nat.le_of_eq rfl) (hb hby d4_21) (fun _ _ => ⟨rfl, e3, (by decide : 0 + 0 ≤ _), (by decide : 0 + 0 ≤ _)⟩)
  dsimp only [Pt.U, Pt.locs, Pt.cells, Pt.slots] at X5' l5 y5 z5 st' hQ5
  subst l5 y5 z5
  obtain ⟨rfl, rfl, e5⟩ := hQ5
  have X5 : Stand p l e Qt2 _ m #[(.ref a0)] below meth c T5 _ 0 0 := own_locs X5'
  refine opW T5 (mkF m 28 #[rv a0, iv 0, iv c0, uu] [(.int 97), (.int c0)]) (fun _ k => st'.trans (XS.istoreN X5.here hx rfl (hb hby d4_24) rfl (l' := #[rv a0, iv 0, iv c0, uu]) rfl (XS.iloadN X5.here hx rfl (hb hby d4_25) rfl (XS.bipush X5.here hx rfl (hb hby d4_26) k)))) ?_
  refine own_iteTW Rt2 (Kt2 Z c0 c1 a0 h0 n0) (fun hc28 => ?_) (fun hc28 => ?_)
  · skip
    refine opW T5 (mkF m 40 #[rv a0, iv 0, iv c0, uu] [(.int 65), (.int c0)]) (fun _ k => XS.icmpYes X5.here hx rfl (pc0 := 28) (pc' := 37) rfl (hb hby d4_28) rfl (tlt hc28).1 (by decide) (by decide) (XS.iloadN X5.here hx rfl (hb hby d4_37) rfl (XS.bipush X5.here hx rfl (hb hby d4_38) k))) ?_
    refine own_iteTW Rt2 (Kt2 Z c0 c1 a0 h0 n0) (fun hc40 => ?_) (fun hc40 => ?_)
    · skip
      refine opW T5 (mkF m 52 #[rv a0, iv 0, iv c0, uu] [(.int 48), (.int c0)]) (fun _ k => XS.icmpYes X5.here hx rfl (pc0 := 40) (pc' := 49) rfl (hb hby d4_40) rfl (tlt hc40).1 (by decide) (by decide) (XS.iloadN X5.here hx rfl (hb hby d4_49) rfl (XS.bipush X5.here hx rfl (hb hby d4_50) k))) ?_
      refine own_iteTW Rt2 (Kt2 Z c0 c1 a0 h0 n0) (fun hc52 => ?_) (fun hc52 => ?_)
      · skip
        refine opW T5 (mkF m 65 #[rv a0, iv 0, iv c0, uu] []) (fun _ k => XS.icmpYes X5.here hx rfl (pc0 := 52) (pc' := 65) rfl (hb hby d4_52) rfl (tlt hc52).1 (by decide) (by decide) k) ?_
        exact gt2_65a hw c0 c1 a0 Bd hml hZ hown hS T5 X5 e5 hk C0 SZ0 NF0 KP0 W_a0 J0
      · skip
        refine opW T5 (mkF m 58 #[rv a0, iv 0, iv c0, uu] [(.int 57), (.int c0)]) (fun _ k => XS.icmpNo X5.here hx rfl (hb hby d4_52) rfl (flt hc52).1 (XS.iloadN X5.here hx rfl (hb hby d4_55) rfl (XS.bipush X5.here hx rfl (hb hby d4_56) k))) ?_
        refine own_iteTW Rt2 (Kt2 Z c0 c1 a0 h0 n0) (fun hc58 => ?_) (fun hc58 => ?_)
        · skip
          refine opW T5 (mkF m 65 #[rv a0, iv 0, iv c0, uu] []) (fun _ k => XS.icmpYes X5.here hx rfl (pc0 := 58) (pc' := 65) rfl (hb hby d4_58) rfl (tlt hc58).2.2.1 (by decide) (by decide) k) ?_
          exact gt2_65a hw c0 c1 a0 Bd hml hZ hown hS T5 X5 e5 hk C0 SZ0 NF0 KP0 W_a0 J0
        · skip
          refine opW T5 (mkF m 61 #[rv a0, iv 0, iv c0, uu] []) (fun _ k => XS.icmpNo X5.here hx rfl (hb hby d4_58) rfl (flt hc58).2.2.1 k) ?_
          exact gt2_61a hw c0 c1 a0 Bd hml hZ hown hS T5 X5 e5 hk C0 SZ0 NF0 KP0 W_a0 J0
    · skip
      refine opW T5 (mkF m 46 #[rv a0, iv 0, iv c0, uu] [(.int 90), (.int c0)]) (fun _ k => XS.icmpNo X5.here hx rfl (hb hby d4_40) rfl (flt hc40).1 (XS.iloadN X5.here hx rfl (hb hby d4_43) rfl (XS.bipush X5.here hx rfl (hb hby d4_44) k))) ?_
      refine own_iteTW Rt2 (Kt2 Z c0 c1 a0 h0 n0) (fun hc46 => ?_) (fun hc46 => ?_)
      · skip
        refine opW T5 (mkF m 52 #[rv a0, iv 0, iv c0, uu] [(.int 48), (.int c0)]) (fun _ k => XS.icmpNo X5.here hx rfl (hb hby d4_46) rfl (tlt hc46).2.2.2 (XS.iloadN X5.here hx rfl (hb hby d4_49) rfl (XS.bipush X5.here hx rfl (hb hby d4_50) k))) ?_
        refine own_iteTW Rt2 (Kt2 Z c0 c1 a0 h0 n0) (fun hc52 => ?_) (fun hc52 => ?_)
        · skip
          refine opW T5 (mkF m 65 #[rv a0, iv 0, iv c0, uu] []) (fun _ k => XS.icmpYes X5.here hx rfl (pc0 := 52) (pc' := 65) rfl (hb hby d4_52) rfl (tlt hc52).1 (by decide) (by decide) k) ?_
          exact gt2_65a hw c0 c1 a0 Bd hml hZ hown hS T5 X5 e5 hk C0 SZ0 NF0 KP0 W_a0 J0
        · skip
          refine opW T5 (mkF m 58 #[rv a0, iv 0, iv c0, uu] [(.int 57), (.int c0)]) (fun _ k => XS.icmpNo X5.here hx rfl (hb hby d4_52) rfl (flt hc52).1 (XS.iloadN X5.here hx rfl (hb hby d4_55) rfl (XS.bipush X5.here hx rfl (hb hby d4_56) k))) ?_
          refine own_iteTW Rt2 (Kt2 Z c0 c1 a0 h0 n0) (fun hc58 => ?_) (fun hc58 => ?_)
          · skip
            refine opW T5 (mkF m 65 #[rv a0, iv 0, iv c0, uu] []) (fun _ k => XS.icmpYes X5.here hx rfl (pc0 := 58) (pc' := 65) rfl (hb hby d4_58) rfl (tlt hc58).2.2.1 (by decide) (by decide) k) ?_
            exact gt2_65a hw c0 c1 a0 Bd hml hZ hown hS T5 X5 e5 hk C0 SZ0 NF0 KP0 W_a0 J0
          · skip
            refine opW T5 (mkF m 61 #[rv a0, iv 0, iv c0, uu] []) (fun _ k => XS.icmpNo X5.here hx rfl (hb hby d4_58) rfl (flt hc58).2.2.1 k) ?_
            exact gt2_61a hw c0 c1 a0 Bd hml hZ hown hS T5 X5 e5 hk C0 SZ0 NF0 KP0 W_a0 J0
      · skip
        refine opW T5 (mkF m 61 #[rv a0, iv 0, iv c0, uu] []) (fun _ k => XS.icmpYes X5.here hx rfl (pc0 := 46) (pc' := 61) rfl (hb hby d4_46) rfl (flt hc46).2.2.2 (by decide) (by decide) k) ?_
        exact gt2_61a hw c0 c1 a0 Bd hml hZ hown hS T5 X5 e5 hk C0 SZ0 NF0 KP0 W_a0 J0
  · skip
    refine opW T5 (mkF m 34 #[rv a0, iv 0, iv c0, uu] [(.int 122), (.int c0)]) (fun _ k => XS.icmpNo X5.here hx rfl (hb hby d4_28) rfl (flt hc28).1 (XS.iloadN X5.here hx rfl (hb hby d4_31) rfl (XS.bipush X5.here hx rfl (hb hby d4_32) k))) ?_
    refine own_iteTW Rt2 (Kt2 Z c0 c1 a0 h0 n0) (fun hc34 => ?_) (fun hc34 => ?_)
    · skip
      refine opW T5 (mkF m 40 #[rv a0, iv 0, iv c0, uu] [(.int 65), (.int c0)]) (fun _ k => XS.icmpNo X5.here hx rfl (hb hby d4_34) rfl (tlt hc34).2.2.2 (XS.iloadN X5.here hx rfl (hb hby d4_37) rfl (XS.bipush X5.here hx rfl (hb hby d4_38) k))) ?_
      refine own_iteTW Rt2 (Kt2 Z c0 c1 a0 h0 n0) (fun hc40 => ?_) (fun hc40 => ?_)
      · skip
        refine opW T5 (mkF m 52 #[rv a0, iv 0, iv c0, uu] [(.int 48), (.int c0)]) (fun _ k => XS.icmpYes X5.here hx rfl (pc0 := 40) (pc' := 49) rfl (hb hby d4_40) rfl (tlt hc40).1 (by decide) (by decide) (XS.iloadN X5.here hx rfl (hb hby d4_49) rfl (XS.bipush X5.here hx rfl (hb hby d4_50) k))) ?_
        refine own_iteTW Rt2 (Kt2 Z c0 c1 a0 h0 n0) (fun hc52 => ?_) (fun hc52 => ?_)
        · skip
          refine opW T5 (mkF m 65 #[rv a0, iv 0, iv c0, uu] []) (fun _ k => XS.icmpYes X5.here hx rfl (pc0 := 52) (pc' := 65) rfl (hb hby d4_52) rfl (tlt hc52).1 (by decide) (by decide) k) ?_
          exact gt2_65a hw c0 c1 a0 Bd hml hZ hown hS T5 X5 e5 hk C0 SZ0 NF0 KP0 W_a0 J0
        · skip
          refine opW T5 (mkF m 58 #[rv a0, iv 0, iv c0, uu] [(.int 57), (.int c0)]) (fun _ k => XS.icmpNo X5.here hx rfl (hb hby d4_52) rfl (flt hc52).1 (XS.iloadN X5.here hx rfl (hb hby d4_55) rfl (XS.bipush X5.here hx rfl (hb hby d4_56) k))) ?_
          refine own_iteTW Rt2 (Kt2 Z c0 c1 a0 h0 n0) (fun hc58 => ?_) (fun hc58 => ?_)
          · skip
            refine opW T5 (mkF m 65 #[rv a0, iv 0, iv c0, uu] []) (fun _ k => XS.icmpYes X5.here hx rfl (pc0 := 58) (pc' := 65) rfl (hb hby d4_58) rfl (tlt hc58).2.2.1 (by decide) (by decide) k) ?_
            exact gt2_65a hw c0 c1 a0 Bd hml hZ hown hS T5 X5 e5 hk C0 SZ0 NF0 KP0 W_a0 J0
          · skip
            refine opW T5 (mkF m 61 #[rv a0, iv 0, iv c0, uu] []) (fun _ k => XS.icmpNo X5.here hx rfl (hb hby d4_58) rfl (flt hc58).2.2.1 k) ?_
            exact gt2_61a hw c0 c1 a0 Bd hml hZ hown hS T5 X5 e5 hk C0 SZ0 NF0 KP0 W_a0 J0
      · skip
        refine opW T5 (mkF m 46 #[rv a0, iv 0, iv c0, uu] [(.int 90), (.int c0)]) (fun _ k => XS.icmpNo X5.here hx rfl (hb hby d4_40) rfl (flt hc40).1 (XS.iloadN X5.here hx rfl (hb hby d4_43) rfl (XS.bipush X5.here hx rfl (hb hby d4_44) k))) ?_
        refine own_iteTW Rt2 (Kt2 Z c0 c1 a0 h0 n0) (fun hc46 => ?_) (fun hc46 => ?_)
        · skip
          refine opW T5 (mkF m 52 #[rv a0, iv 0, iv c0, uu] [(.int 48), (.int c0)]) (fun _ k => XS.icmpNo X5.here hx rfl (hb hby d4_46) rfl (tlt hc46).2.2.2 (XS.iloadN X5.here hx rfl (hb hby d4_49) rfl (XS.bipush X5.here hx rfl (hb hby d4_50) k))) ?_
          refine own_iteTW Rt2 (Kt2 Z c0 c1 a0 h0 n0) (fun hc52 => ?_) (fun hc52 => ?_)
          · skip
            refine opW T5 (mkF m 65 #[rv a0, iv 0, iv c0, uu] []) (fun _ k => XS.icmpYes X5.here hx rfl (pc0 := 52) (pc' := 65) rfl (hb hby d4_52) rfl (tlt hc52).1 (by decide) (by decide) k) ?_
            exact gt2_65a hw c0 c1 a0 Bd hml hZ hown hS T5 X5 e5 hk C0 SZ0 NF0 KP0 W_a0 J0
          · skip
            refine opW T5 (mkF m 58 #[rv a0, iv 0, iv c0, uu] [(.int 57), (.int c0)]) (fun _ k => XS.icmpNo X5.here hx rfl (hb hby d4_52) rfl (flt hc52).1 (XS.iloadN X5.here hx rfl (hb hby d4_55) rfl (XS.bipush X5.here hx rfl (hb hby d4_56) k))) ?_
            refine own_iteTW Rt2 (Kt2 Z c0 c1 a0 h0 n0) (fun hc58 => ?_) (fun hc58 => ?_)
            · skip
              refine opW T5 (mkF m 65 #[rv a0, iv 0, iv c0, uu] []) (fun _ k => XS.icmpYes X5.here hx rfl (pc0 := 58) (pc' := 65) rfl (hb hby d4_58) rfl (tlt hc58).2.2.1 (by decide) (by decide) k) ?_
              exact gt2_65a hw c0 c1 a0 Bd hml hZ hown hS T5 X5 e5 hk C0 SZ0 NF0 KP0 W_a0 J0
            · skip
              refine opW T5 (mkF m 61 #[rv a0, iv 0, iv c0, uu] []) (fun _ k => XS.icmpNo X5.here hx rfl (hb hby d4_58) rfl (flt hc58).2.2.1 k) ?_
              exact gt2_61a hw c0 c1 a0 Bd hml hZ hown hS T5 X5 e5 hk C0 SZ0 NF0 KP0 W_a0 J0
        · skip
          refine opW T5 (mkF m 61 #[rv a0, iv 0, iv c0, uu] []) (fun _ k => XS.icmpYes X5.here hx rfl (pc0 := 46) (pc' := 61) rfl (hb hby d4_46) rfl (flt hc46).2.2.2 (by decide) (by decide) k) ?_
          exact gt2_61a hw c0 c1 a0 Bd hml hZ hown hS T5 X5 e5 hk C0 SZ0 NF0 KP0 W_a0 J0
    · skip
      refine opW T5 (mkF m 61 #[rv a0, iv 0, iv c0, uu] []) (fun _ k => XS.icmpYes X5.here hx rfl (pc0 := 34) (pc' := 61) rfl (hb hby d4_34) rfl (flt hc34).2.2.2 (by decide) (by decide) k) ?_
      exact gt2_61a hw c0 c1 a0 Bd hml hZ hown hS T5 X5 e5 hk C0 SZ0 NF0 KP0 W_a0 J0
theorem ef_t2 (m : MethodId) (a0 : Addr) : entryFrame m #[(.ref a0)] 4 = mkF m 0 #[rv a0, uu, uu, uu] [] := by first | (simp [entryFrame, mkF, argsToLocals, Value.category]; done) | rfl
set_option maxRecDepth 65536 in
set_option maxHeartbeats 40000000 in
theorem rmt2 (l : Launch) (Z : State) (aw : Array Value) (hw : HW aw Z) (ws : List Jvm.Cond) (c0 c1 : Int32) (a0 : Addr) (h0 : Heap) (n0 : Nat) (SZ0 : n0 ≤ h0.size) (W_a0 : own_S2 Z h0 n0 a0 c0 c1) (J0 : own_J Z h0) :
    MetFree l y28 (head1 (Jvm.Cond.code y28 Gd 4 (some .boolean) :: ws) Qt2) (fun a U => a = #[(.ref a0)] ∧ Z.Warmed39 U.vm ∧ U.heap = h0 ∧ CHv Z consts_1 U.vm h0) (fun _ _ _ _ _ => True) (fun _ U o U' => ∃ v L, o = .returned v ∧ own_Q (Rt2 (ft2_0 c0 c1)) (Kt2 Z c0 c1 a0 h0 n0 (ft2_0 c0 c1)) v U'.heap L ∧ ReturnedEndW U o U' L Qt2.cells Qt2.slots) := by
  refine MetFree.of_bodySF (plainFor_of_name own_pn5) hisR ?_
  intro p e s m args below meth c s₁ Bd hml0 hP hK
  obtain ⟨rfl, hZ, hh, HC⟩ := hP
  have hown := findClass_of_methodNamed Bd.named
  have hS : s.Since s.vm 0 := (State.WarmedH.refl s).since 0
  have hml : c.maxLocals = 4 := hml0
  have e0 : s₁.heap = h0 := by rw [← hh, Bd.state]; rfl
  exact own_preW (fun t k => castTop (ef_t2 m a0) k) (gt2_0 hw c0 c1 a0 Bd hml hZ hown hS s₁ (Stand.of_body Bd) e0 (Nat.zero_le _) HC SZ0 (Fr.nil n0) (Keep.refl _ _) W_a0 J0)
abbrev Qt3 : Room := { frames := 5, cells := 6, slots := 192, locals := 106 }
/-! body 4, t3 -/
def Rt3 (t : Int32) : Option Value := some (.int t)
def Kt3 (Z : State) (c0 c1 c2 : Int32) (a0 : Addr) (h0 : Heap) (n0 : Nat) (t : Int32) (h : Heap) (L : List Loc) : Prop := Fr n0 L ∧ Keep h0 h []
def ft3_82c (c0 c1 c2 : Int32) : Int32 := (1 : Int32)
set_option maxRecDepth 65536 in
set_option maxHeartbeats 40000000 in
theorem gt3_82c (hw : HW aw Z) {h0 : Heap} {n0 : Nat} (c0 c1 c2 : Int32) (a0 : Addr) (x3 : Int32)
    (Bd : BodyLoose p l y28 (head1 (Jvm.Cond.code y28 Gd 4 (some .boolean) :: ws) Qt3) Gd 4 (some .boolean) e s m #[(.ref a0)] below meth c s₁) (hml : c.maxLocals = 4) {vm0 : Vm} {k0 : Nat} (hZ : Z.Warmed39 vm0) (hown : vm0.findClass cR = some m.cls) (hS : s.Since vm0 k0) (T0 : State) {locs : List Loc} (X0 : Stand p l e Qt3 (s.setVm vm0) m #[(.ref a0)] below meth c T0 locs 6 192) {h : Heap} (e0 : T0.heap = h) (hk : k0 ≤ h.size) (C0 : CHv Z consts_1 vm0 h) (SZ0 : n0 ≤ h.size) (NF0 : Fr n0 locs) (KP0 : Keep h0 h []) (W_a0 : own_S3 Z h n0 a0 c0 c1 c2) (J0 : own_J Z h) :
    own_GoW p e below s Qt3.cells Qt3.slots (Rt3 (ft3_82c c0 c1 c2)) (Kt3 Z c0 c1 c2 a0 h0 n0 (ft3_82c c0 c1 c2)) (T0.setTop (mkF m 82 #[rv a0, iv 2, iv c2, iv x3] [])) := by
  have hx := Bd.exec
  have hby := Bd.bytes
  have hnm := (name_of_methodNamed Bd.named Bd.method).1
  unfold ft3_82c
  refine opW T0 (mkF m 13 #[rv a0, iv 3, iv c2, iv x3] [(.ref a0), (.int 3)]) (fun _ k => XS.iinc X0.here hx rfl (hb hby d4_82) rfl (l' := #[rv a0, iv 3, iv c2, iv x3]) rfl (XS.goto X0.here hx rfl (pc0 := 85) (pc' := 11) rfl (hb hby d4_85) (by decide) (by decide) (XS.iloadN X0.here hx rfl (hb hby d4_11) rfl (XS.aloadN X0.here hx rfl (hb hby d4_12) rfl rfl k)))) ?_
  have ex1 := own_S3.exa W_a0
  obtain ⟨cq1, kq1, qa1, qb1, qc1⟩ := isOf (s := s.setVm _) hZ e0 ex1
  obtain ⟨_, _, ⟨T1, L1, k1, n1⟩, -, X1', ⟨Lc1, hQ1, l1, y1, z1⟩, st'⟩ := X0.virtualBack hx (y := y9) (z := y9) hown (mvT hZ (ow hw 47 rfl)) (mvT hZ (ow hw 48 rfl)) (notFace_of_selects (args := #[]) (mvT hZ (ow hw 50 rfl))) (mvT hZ (ow hw 50 rfl)) (mvT hZ (ow hw 49 rfl)) (by decide) (backOf (W := 1) (rmlenw3 l Z aw hw [] c0 c1 c2 a0 h n0 SZ0 W_a0 J0) hZ (ow hw 51 rfl) (ow hw 4 rfl) (by decide) (by decide)) qa1 qc1 (g := (mkF m 13 #[rv a0, iv 3, iv c2, iv x3] [(.ref a0), (.int 3)])) rfl (by rw [hml]; rfl) (Steps.refl _) (argsL := []) (rest := [(.int 3)]) (lenOf own_pd10 rfl) rfl (by show 2 * 0 + _ ≤ _; exact Nat.le_of_eq rfl) (hb hby d4_13) (fun _ _ => ⟨rfl, e0, (by decide : 6 + 0 ≤ _), (by decide : 192 + 0 ≤ _)⟩)
  dsimp only [Pt.U, Pt.locs, Pt.cells, Pt.slots] at X1' l1 y1 z1 st' hQ1
  subst l1 y1 z1
  obtain ⟨rfl, rfl, e1⟩ := hQ1
  have X1 : Stand p l e Qt3 _ m #[(.ref a0)] below meth c T1 _ 6 192 := own_locs X1'
  refine opW T1 (mkF m 16 #[rv a0, iv 3, iv c2, iv x3] [(.int 3), (.int 3)]) (fun _ k => st'.trans k) ?_
  have hd2 : ¬ ((3 : Int32) < (3 : Int32)) := by decide
  refine opW T1 (mkF m 89 #[rv a0, iv 3, iv c2, iv x3] [(.int 1)]) (fun _ k => XS.icmpYes X1.here hx rfl (pc0 := 16) (pc' := 88) rfl (hb hby d4_16) rfl (flt hd2).2.1 (by decide) (by decide) (XS.iconst X1.here hx rfl (hb hby d4_88) k)) ?_
  exact own_retW hS (by rw [e1]; exact hk) (w := (.int 1)) X1 hx Bd.notSynchronized Bd.returns rfl (Or.inl ⟨rfl, by simp, _, rfl⟩) (hb hby d4_89) (by rw [e1]; exact ⟨NF0, KP0⟩) (by decide) (by decide)
def ft3_65c (c0 c1 c2 : Int32) : Int32 := (if (fio1_0 c2) < (0 : Int32) then (0 : Int32) else (ft3_82c c0 c1 c2))
set_option maxRecDepth 65536 in
set_option maxHeartbeats 40000000 in
theorem gt3_65c (hw : HW aw Z) {h0 : Heap} {n0 : Nat} (c0 c1 c2 : Int32) (a0 : Addr) (x3 : Int32)
    (Bd : BodyLoose p l y28 (head1 (Jvm.Cond.code y28 Gd 4 (some .boolean) :: ws) Qt3) Gd 4 (some .boolean) e s m #[(.ref a0)] below meth c s₁) (hml : c.maxLocals = 4) {vm0 : Vm} {k0 : Nat} (hZ : Z.Warmed39 vm0) (hown : vm0.findClass cR = some m.cls) (hS : s.Since vm0 k0) (T0 : State) {locs : List Loc} (X0 : Stand p l e Qt3 (s.setVm vm0) m #[(.ref a0)] below meth c T0 locs 4 128) {h : Heap} (e0 : T0.heap = h) (hk : k0 ≤ h.size) (C0 : CHv Z consts_1 vm0 h) (SZ0 : n0 ≤ h.size) (NF0 : Fr n0 locs) (KP0 : Keep h0 h []) (W_a0 : own_S3 Z h n0 a0 c0 c1 c2) (J0 : own_J Z h) :
    own_GoW p e below s Qt3.cells Qt3.slots (Rt3 (ft3_65c c0 c1 c2)) (Kt3 Z c0 c1 c2 a0 h0 n0 (ft3_65c c0 c1 c2)) (T0.setTop (mkF m 65 #[rv a0, iv 2, iv c2, iv x3] [])) := by
  have hx := Bd.exec
  have hby := Bd.bytes
  have hnm := (name_of_methodNamed Bd.named Bd.method).1
  unfold ft3_65c
  refine opW T0 (mkF m 68 #[rv a0, iv 2, iv c2, iv 0] [(.int 0)]) (fun _ k => XS.iconst X0.here hx rfl (hb hby d4_65) (XS.istoreN X0.here hx rfl (hb hby d4_66) rfl (l' := #[rv a0, iv 2, iv c2, iv 0]) rfl (XS.iloadN X0.here hx rfl (hb hby d4_67) rfl k))) ?_
  have hd1 : (0 : Int32) = (0 : Int32) := by decide
  refine opW T0 (mkF m 71 #[rv a0, iv 2, iv c2, iv 0] []) (fun _ k => XS.ifNo X0.here hx rfl (hb hby d4_68) rfl ((if0 _ _).trans (teq hd1).2) k) ?_
  obtain ⟨a2, T2, h2, kk2, b2, kb2, X2, e2, E2, hS, hk, hZ, hown, EX2, FC2, FV2, AB2, -, -, CR2, LT2, -, st'⟩ := ldcCH X0 hx hZ hown (ow hw 79 rfl) (own_wS hw) e0 hS hk (own_EW hw) (List.mem_of_getElem? (i := 0) rfl) C0 (vs := [(33 : Int32), (35 : Int32), (36 : Int32), (37 : Int32), (38 : Int32), (39 : Int32), (42 : Int32), (43 : Int32), (45 : Int32), (46 : Int32), (94 : Int32), (95 : Int32), (96 : Int32), (124 : Int32), (126 : Int32)].map Value.int) (z := 15) ⟨by decide, by decide⟩ (by decide) (by decide) (g := (mkF m 71 #[rv a0, iv 2, iv c2, iv 0] [])) rfl (hb hby d4_71) (n := 60) (by decide) (by decide) (by decide) (by decide)
  have SZ2 : n0 ≤ h2.size := Nat.le_trans SZ0 E2.1
  have KP2 := KP0.ext E2
  have Cx2 := CR2.1
  have f3 := W_a0.ext E2
  have f4 := own_J.ext J0 E2
  have f5 : own_Pv Z h2 b2 (15 : Int32) [(33 : Int32), (35 : Int32), (36 : Int32), (37 : Int32), (38 : Int32), (39 : Int32), (42 : Int32), (43 : Int32), (45 : Int32), (46 : Int32), (94 : Int32), (95 : Int32), (96 : Int32), (124 : Int32), (126 : Int32)] .byte := ⟨_, AB2⟩
  refine opW T2 (mkF m 74 #[rv a0, iv 2, iv c2, iv 0] [(.int c2), (.ref a2)]) (fun _ k => st' _ (XS.iloadN X2.here hx rfl (hb hby d4_73) rfl k)) ?_
  obtain ⟨cq6, kq6, qa6, qb6, qc6⟩ := isOf (s := s.setVm _) hZ e2 EX2
  obtain ⟨_, _, ⟨T6, L6, k6, n6⟩, -, X6', ⟨Lc6, hQ6, l6, y6, z6⟩, st'⟩ := X2.virtualBack hx (y := y18) (z := y18) hown (mvT hZ (ow hw 80 rfl)) (mvT hZ (ow hw 81 rfl)) (notFace_of_selects (args := #[]) (mvT hZ (ow hw 83 rfl))) (mvT hZ (ow hw 83 rfl)) (mvT hZ (ow hw 82 rfl)) (by decide) (backOf (W := 0) (rmio1 l Z aw hw [] c2 a2 b2 h2 n0 SZ2 EX2 FV2 FC2 f5 f4) hZ (ow hw 84 rfl) (ow hw 4 rfl) (by decide) (by decide)) qa6 qc6 (g := (mkF m 74 #[rv a0, iv 2, iv c2, iv 0] [(.int c2), (.ref a2)])) rfl (by rw [hml]; rfl) (Steps.refl _) (argsL := [(.int c2)]) (rest := []) (lenOf own_pd11 rfl) rfl (by show 2 * 0 + _ ≤ _; exact Nat.le_of_eq rfl) (hb hby d4_74) (fun _ _ => ⟨rfl, e2, (by decide : 6 + 0 ≤ _), (by decide : 192 + 0 ≤ _)⟩)
  dsimp only [Pt.U, Pt.locs, Pt.cells, Pt.slots] at X6' l6 y6 z6 st' hQ6
  subst l6 y6 z6
  obtain ⟨rfl, rfl, e6⟩ := hQ6
  have X6 : Stand p l e Qt3 _ m #[(.ref a0)] below meth c T6 _ 6 192 := own_locs X6'
  refine opW T6 (mkF m 77 #[rv a0, iv 2, iv c2, iv 0] [(.int (fio1_0 c2))]) (fun _ k => st'.trans k) ?_
  refine own_iteTW Rt3 (Kt3 Z c0 c1 c2 a0 h0 n0) (fun hc77 => ?_) (fun hc77 => ?_)
  · skip
    refine opW T6 (mkF m 81 #[rv a0, iv 2, iv c2, iv 0] [(.int 0)]) (fun _ k => XS.ifNo X6.here hx rfl (hb hby d4_77) rfl ((if0 _ _).trans (tlt hc77).2.1) (XS.iconst X6.here hx rfl (hb hby d4_80) k)) ?_
    exact own_retW hS (by rw [e6]; exact hk) (w := (.int 0)) X6 hx Bd.notSynchronized Bd.returns rfl (Or.inl ⟨rfl, by simp, _, rfl⟩) (hb hby d4_81) (by rw [e6]; exact ⟨NF0, KP2⟩) (by decide) (by decide)
  · skip
    refine opW T6 (mkF m 82 #[rv a0, iv 2, iv c2, iv 0] []) (fun _ k => XS.ifYes X6.here hx rfl (pc0 := 77) (pc' := 82) rfl (hb hby d4_77) rfl ((if0 _ _).trans (flt hc77).2.1) (by decide) (by decide) k) ?_
    exact gt3_82c hw c0 c1 c2 a0 (0 : Int32) Bd hml hZ hown hS T6 X6 e6 hk Cx2 SZ2 NF0 KP2 f3 f4
def ft3_61c (c0 c1 c2 : Int32) : Int32 := (ft3_82c c0 c1 c2)
set_option maxRecDepth 65536 in
set_option maxHeartbeats 40000000 in
theorem gt3_61c (hw : HW aw Z) {h0 : Heap} {n0 : Nat} (c0 c1 c2 : Int32) (a0 : Addr) (x3 : Int32)
    (Bd : BodyLoose p l y28 (head1 (Jvm.Cond.code y28 Gd 4 (some .boolean) :: ws) Qt3) Gd 4 (some .boolean) e s m #[(.ref a0)] below meth c s₁) (hml : c.maxLocals = 4) {vm0 : Vm} {k0 : Nat} (hZ : Z.Warmed39 vm0) (hown : vm0.findClass cR = some m.cls) (hS : s.Since vm0 k0) (T0 : State) {locs : List Loc} (X0 : Stand p l e Qt3 (s.setVm vm0) m #[(.ref a0)] below meth c T0 locs 4 128) {h : Heap} (e0 : T0.heap = h) (hk : k0 ≤ h.size) (C0 : CHv Z consts_1 vm0 h) (SZ0 : n0 ≤ h.size) (NF0 : Fr n0 locs) (KP0 : Keep h0 h []) (W_a0 : own_S3 Z h n0 a0 c0 c1 c2) (J0 : own_J Z h) :
    own_GoW p e below s Qt3.cells Qt3.slots (Rt3 (ft3_61c c0 c1 c2)) (Kt3 Z c0 c1 c2 a0 h0 n0 (ft3_61c c0 c1 c2)) (T0.setTop (mkF m 61 #[rv a0, iv 2, iv c2, iv x3] [])) := by
  have hx := Bd.exec
  have hby := Bd.bytes
  have hnm := (name_of_methodNamed Bd.named Bd.method).1
  unfold ft3_61c
  refine opW T0 (mkF m 68 #[rv a0, iv 2, iv c2, iv 1] [(.int 1)]) (fun _ k => XS.iconst X0.here hx rfl (hb hby d4_61) (XS.goto X0.here hx rfl (pc0 := 62) (pc' := 66) rfl (hb hby d4_62) (by decide) (by decide) (XS.istoreN X0.here hx rfl (hb hby d4_66) rfl (l' := #[rv a0, iv 2, iv c2, iv 1]) rfl (XS.iloadN X0.here hx rfl (hb hby d4_67) rfl k)))) ?_
  have hd1 : ¬ ((1 : Int32) = (0 : Int32)) := by decide
  refine opW T0 (mkF m 82 #[rv a0, iv 2, iv c2, iv 1] []) (fun _ k => XS.ifYes X0.here hx rfl (pc0 := 68) (pc' := 82) rfl (hb hby d4_68) rfl ((if0 _ _).trans (feq hd1).2) (by decide) (by decide) k) ?_
  exact gt3_82c hw c0 c1 c2 a0 (1 : Int32) Bd hml hZ hown hS T0 (X0.mono (by decide) (by decide)) e0 hk C0 SZ0 NF0 KP0 W_a0 J0
def ft3_82b (c0 c1 c2 : Int32) : Int32 := (if c2 < (97 : Int32) then (if c2 < (65 : Int32) then (if c2 < (48 : Int32) then (ft3_65c c0 c1 c2) else (if (57 : Int32) < c2 then (ft3_65c c0 c1 c2) else (ft3_61c c0 c1 c2))) else (if (90 : Int32) < c2 then (if c2 < (48 : Int32) then (ft3_65c c0 c1 c2) else (if (57 : Int32) < c2 then (ft3_65c c0 c1 c2) else (ft3_61c c0 c1 c2))) else (ft3_61c c0 c1 c2))) else (if (122 : Int32) < c2 then (if c2 < (65 : Int32) then (if c2 < (48 : Int32) then (ft3_65c c0 c1 c2) else (if (57 : Int32) < c2 then (ft3_65c c0 c1 c2) else (ft3_61c c0 c1 c2))) else (if (90 : Int32) < c2 then (if c2 < (48 : Int32) then (ft3_65c c0 c1 c2) else (if (57 : Int32) < c2 then (ft3_65c c0 c1 c2) else (ft3_61c c0 c1 c2))) else (ft3_61c c0 c1 c2))) else (ft3_61c c0 c1 c2)))
set_option maxRecDepth 65536 in
set_option maxHeartbeats 40000000 in
theorem gt3_82b (hw : HW aw Z) {h0 : Heap} {n0 : Nat} (c0 c1 c2 : Int32) (a0 : Addr) (x3 : Int32)
    (Bd : BodyLoose p l y28 (head1 (Jvm.Cond.code y28 Gd 4 (some .boolean) :: ws) Qt3) Gd 4 (some .boolean) e s m #[(.ref a0)] below meth c s₁) (hml : c.maxLocals = 4) {vm0 : Vm} {k0 : Nat} (hZ : Z.Warmed39 vm0) (hown : vm0.findClass cR = some m.cls) (hS : s.Since vm0 k0) (T0 : State) {locs : List Loc} (X0 : Stand p l e Qt3 (s.setVm vm0) m #[(.ref a0)] below meth c T0 locs 4 128) {h : Heap} (e0 : T0.heap = h) (hk : k0 ≤ h.size) (C0 : CHv Z consts_1 vm0 h) (SZ0 : n0 ≤ h.size) (NF0 : Fr n0 locs) (KP0 : Keep h0 h []) (W_a0 : own_S3 Z h n0 a0 c0 c1 c2) (J0 : own_J Z h) :
    own_GoW p e below s Qt3.cells Qt3.slots (Rt3 (ft3_82b c0 c1 c2)) (Kt3 Z c0 c1 c2 a0 h0 n0 (ft3_82b c0 c1 c2)) (T0.setTop (mkF m 82 #[rv a0, iv 1, iv c1, iv x3] [])) := by
  have hx := Bd.exec
  have hby := Bd.bytes
  have hnm := (name_of_methodNamed Bd.named Bd.method).1
  unfold ft3_82b
  refine opW T0 (mkF m 13 #[rv a0, iv 2, iv c1, iv x3] [(.ref a0), (.int 2)]) (fun _ k => XS.iinc X0.here hx rfl (hb hby d4_82) rfl (l' := #[rv a0, iv 2, iv c1, iv x3]) rfl (XS.goto X0.here hx rfl (pc0 := 85) (pc' := 11) rfl (hb hby d4_85) (by decide) (by decide) (XS.iloadN X0.here hx rfl (hb hby d4_11) rfl (XS.aloadN X0.here hx rfl (hb hby d4_12) rfl rfl k)))) ?_
  have ex1 := own_S3.exa W_a0
  obtain ⟨cq1, kq1, qa1, qb1, qc1⟩ := isOf (s := s.setVm _) hZ e0 ex1
  obtain ⟨_, _, ⟨T1, L1, k1, n1⟩, -, X1', ⟨Lc1, hQ1, l1, y1, z1⟩, st'⟩ := X0.virtualBack hx (y := y9) (z := y9) hown (mvT hZ (ow hw 47 rfl)) (mvT hZ (ow hw 48 rfl)) (notFace_of_selects (args := #[]) (mvT hZ (ow hw 50 rfl))) (mvT hZ (ow hw 50 rfl)) (mvT hZ (ow hw 49 rfl)) (by decide) (backOf (W := 1) (rmlenw3 l Z aw hw [] c0 c1 c2 a0 h n0 SZ0 W_a0 J0) hZ (ow hw 51 rfl) (ow hw 4 rfl) (by decide) (by decide)) qa1 qc1 (g := (mkF m 13 #[rv a0, iv 2, iv c1, iv x3] [(.ref a0), (.int 2)])) rfl (by rw [hml]; rfl) (Steps.refl _) (argsL := []) (rest := [(.int 2)]) (lenOf own_pd10 rfl) rfl (by show 2 * 0 + _ ≤ _; exact Nat.le_of_eq rfl) (hb hby d4_13) (fun _ _ => ⟨rfl, e0, (by decide : 4 + 0 ≤ _), (by decide : 128 + 0 ≤ _)⟩)
  dsimp only [Pt.U, Pt.locs, Pt.cells, Pt.slots] at X1' l1 y1 z1 st' hQ1
  subst l1 y1 z1
  obtain ⟨rfl, rfl, e1⟩ := hQ1
  have X1 : Stand p l e Qt3 _ m #[(.ref a0)] below meth c T1 _ 4 128 := own_locs X1'
  refine opW T1 (mkF m 16 #[rv a0, iv 2, iv c1, iv x3] [(.int 3), (.int 2)]) (fun _ k => st'.trans k) ?_
  have hd2 : (2 : Int32) < (3 : Int32) := by decide
  refine opW T1 (mkF m 21 #[rv a0, iv 2, iv c1, iv x3] [(.int 2), (.ref a0)]) (fun _ k => XS.icmpNo X1.here hx rfl (hb hby d4_16) rfl (tlt hd2).2.1 (XS.aloadN X1.here hx rfl (hb hby d4_19) rfl rfl (XS.iloadN X1.here hx rfl (hb hby d4_20) rfl k))) ?_
  have ex3 := own_S3.exa W_a0
  obtain ⟨cq3, kq3, qa3, qb3, qc3⟩ := isOf (s := s.setVm _) hZ e1 ex3
  obtain ⟨_, _, ⟨T3, L3, k3, n3⟩, -, X3', ⟨Lc3, hQ3, l3, y3, z3⟩, st'⟩ := X1.virtualBack hx (y := y11) (z := y11) hown (mvT hZ (ow hw 57 rfl)) (mvT hZ (ow hw 58 rfl)) (notFace_of_selects (args := #[]) (mvT hZ (ow hw 60 rfl))) (mvT hZ (ow hw 60 rfl)) (mvT hZ (ow hw 59 rfl)) (by decide) (backOf (W := 0) (rmchw32 l Z aw hw [] c0 c1 c2 a0 h n0 SZ0 W_a0 J0) hZ (ow hw 61 rfl) (ow hw 4 rfl) (by decide) (by decide)) qa3 qc3 (g := (mkF m 21 #[rv a0, iv 2, iv c1, iv x3] [(.int 2), (.ref a0)])) rfl (by rw [hml]; rfl) (Steps.refl _) (argsL := [(.int 2)]) (rest := []) (lenOf own_pd18 rfl) rfl (by show 2 * 0 + _ ≤ _; exact Nat.le_of_eq rfl) (hb hby d4_21) (fun _ _ => ⟨rfl, e1, (by decide : 4 + 0 ≤ _), (by decide : 128 + 0 ≤ _)⟩)
  dsimp only [Pt.U, Pt.locs, Pt.cells, Pt.slots] at X3' l3 y3 z3 st' hQ3
  subst l3 y3 z3
  obtain ⟨rfl, rfl, e3⟩ := hQ3
  have X3 : Stand p l e Qt3 _ m #[(.ref a0)] below meth c T3 _ 4 128 := own_locs X3'
  refine opW T3 (mkF m 28 #[rv a0, iv 2, iv c2, iv x3] [(.int 97), (.int c2)]) (fun _ k => st'.trans (XS.istoreN X3.here hx rfl (hb hby d4_24) rfl (l' := #[rv a0, iv 2, iv c2, iv x3]) rfl (XS.iloadN X3.here hx rfl (hb hby d4_25) rfl (XS.bipush X3.here hx rfl (hb hby d4_26) k)))) ?_
  refine own_iteTW Rt3 (Kt3 Z c0 c1 c2 a0 h0 n0) (fun hc28 => ?_) (fun hc28 => ?_)
  · skip
    refine opW T3 (mkF m 40 #[rv a0, iv 2, iv c2, iv x3] [(.int 65), (.int c2)]) (fun _ k => XS.icmpYes X3.here hx rfl (pc0 := 28) (pc' := 37) rfl (hb hby d4_28) rfl (tlt hc28).1 (by decide) (by decide) (XS.iloadN X3.here hx rfl (hb hby d4_37) rfl (XS.bipush X3.here hx rfl (hb hby d4_38) k))) ?_
    refine own_iteTW Rt3 (Kt3 Z c0 c1 c2 a0 h0 n0) (fun hc40 => ?_) (fun hc40 => ?_)
    · skip
      refine opW T3 (mkF m 52 #[rv a0, iv 2, iv c2, iv x3] [(.int 48), (.int c2)]) (fun _ k => XS.icmpYes X3.here hx rfl (pc0 := 40) (pc' := 49) rfl (hb hby d4_40) rfl (tlt hc40).1 (by decide) (by decide) (XS.iloadN X3.here hx rfl (hb hby d4_49) rfl (XS.bipush X3.here hx rfl (hb hby d4_50) k))) ?_
      refine own_iteTW Rt3 (Kt3 Z c0 c1 c2 a0 h0 n0) (fun hc52 => ?_) (fun hc52 => ?_)
      · skip
        refine opW T3 (mkF m 65 #[rv a0, iv 2, iv c2, iv x3] []) (fun _ k => XS.icmpYes X3.here hx rfl (pc0 := 52) (pc' := 65) rfl (hb hby d4_52) rfl (tlt hc52).1 (by decide) (by decide) k) ?_
        exact gt3_65c hw c0 c1 c2 a0 x3 Bd hml hZ hown hS T3 X3 e3 hk C0 SZ0 NF0 KP0 W_a0 J0
      · skip
        refine opW T3 (mkF m 58 #[rv a0, iv 2, iv c2, iv x3] [(.int 57), (.int c2)]) (fun _ k => XS.icmpNo X3.here hx rfl (hb hby d4_52) rfl (flt hc52).1 (XS.iloadN X3.here hx rfl (hb hby d4_55) rfl (XS.bipush X3.here hx rfl (hb hby d4_56) k))) ?_
        refine own_iteTW Rt3 (Kt3 Z c0 c1 c2 a0 h0 n0) (fun hc58 => ?_) (fun hc58 => ?_)
        · skip
          refine opW T3 (mkF m 65 #[rv a0, iv 2, iv c2, iv x3] []) (fun _ k => XS.icmpYes X3.here hx rfl (pc0 := 58) (pc' := 65) rfl (hb hby d4_58) rfl (tlt hc58).2.2.1 (by decide) (by decide) k) ?_
          exact gt3_65c hw c0 c1 c2 a0 x3 Bd hml hZ hown hS T3 X3 e3 hk C0 SZ0 NF0 KP0 W_a0 J0
        · skip
          refine opW T3 (mkF m 61 #[rv a0, iv 2, iv c2, iv x3] []) (fun _ k => XS.icmpNo X3.here hx rfl (hb hby d4_58) rfl (flt hc58).2.2.1 k) ?_
          exact gt3_61c hw c0 c1 c2 a0 x3 Bd hml hZ hown hS T3 X3 e3 hk C0 SZ0 NF0 KP0 W_a0 J0
    · skip
      refine opW T3 (mkF m 46 #[rv a0, iv 2, iv c2, iv x3] [(.int 90), (.int c2)]) (fun _ k => XS.icmpNo X3.here hx rfl (hb hby d4_40) rfl (flt hc40).1 (XS.iloadN X3.here hx rfl (hb hby d4_43) rfl (XS.bipush X3.here hx rfl (hb hby d4_44) k))) ?_
      refine own_iteTW Rt3 (Kt3 Z c0 c1 c2 a0 h0 n0) (fun hc46 => ?_) (fun hc46 => ?_)
      · skip
        refine opW T3 (mkF m 52 #[rv a0, iv 2, iv c2, iv x3] [(.int 48), (.int c2)]) (fun _ k => XS.icmpNo X3.here hx rfl (hb hby d4_46) rfl (tlt hc46).2.2.2 (XS.iloadN X3.here hx rfl (hb hby d4_49) rfl (XS.bipush X3.here hx rfl (hb hby d4_50) k))) ?_
        refine own_iteTW Rt3 (Kt3 Z c0 c1 c2 a0 h0 n0) (fun hc52 => ?_) (fun hc52 => ?_)
        · skip
          refine opW T3 (mkF m 65 #[rv a0, iv 2, iv c2, iv x3] []) (fun _ k => XS.icmpYes X3.here hx rfl (pc0 := 52) (pc' := 65) rfl (hb hby d4_52) rfl (tlt hc52).1 (by decide) (by decide) k) ?_
          exact gt3_65c hw c0 c1 c2 a0 x3 Bd hml hZ hown hS T3 X3 e3 hk C0 SZ0 NF0 KP0 W_a0 J0
        · skip
          refine opW T3 (mkF m 58 #[rv a0, iv 2, iv c2, iv x3] [(.int 57), (.int c2)]) (fun _ k => XS.icmpNo X3.here hx rfl (hb hby d4_52) rfl (flt hc52).1 (XS.iloadN X3.here hx rfl (hb hby d4_55) rfl (XS.bipush X3.here hx rfl (hb hby d4_56) k))) ?_
          refine own_iteTW Rt3 (Kt3 Z c0 c1 c2 a0 h0 n0) (fun hc58 => ?_) (fun hc58 => ?_)
          · skip
            refine opW T3 (mkF m 65 #[rv a0, iv 2, iv c2, iv x3] []) (fun _ k => XS.icmpYes X3.here hx rfl (pc0 := 58) (pc' := 65) rfl (hb hby d4_58) rfl (tlt hc58).2.2.1 (by decide) (by decide) k) ?_
            exact gt3_65c hw c0 c1 c2 a0 x3 Bd hml hZ hown hS T3 X3 e3 hk C0 SZ0 NF0 KP0 W_a0 J0
          · skip
            refine opW T3 (mkF m 61 #[rv a0, iv 2, iv c2, iv x3] []) (fun _ k => XS.icmpNo X3.here hx rfl (hb hby d4_58) rfl (flt hc58).2.2.1 k) ?_
            exact gt3_61c hw c0 c1 c2 a0 x3 Bd hml hZ hown hS T3 X3 e3 hk C0 SZ0 NF0 KP0 W_a0 J0
      · skip
        refine opW T3 (mkF m 61 #[rv a0, iv 2, iv c2, iv x3] []) (fun _ k => XS.icmpYes X3.here hx rfl (pc0 := 46) (pc' := 61) rfl (hb hby d4_46) rfl (flt hc46).2.2.2 (by decide) (by decide) k) ?_
        exact gt3_61c hw c0 c1 c2 a0 x3 Bd hml hZ hown hS T3 X3 e3 hk C0 SZ0 NF0 KP0 W_a0 J0
  · skip
    refine opW T3 (mkF m 34 #[rv a0, iv 2, iv c2, iv x3] [(.int 122), (.int c2)]) (fun _ k => XS.icmpNo X3.here hx rfl (hb hby d4_28) rfl (flt hc28).1 (XS.iloadN X3.here hx rfl (hb hby d4_31) rfl (XS.bipush X3.here hx rfl (hb hby d4_32) k))) ?_
    refine own_iteTW Rt3 (Kt3 Z c0 c1 c2 a0 h0 n0) (fun hc34 => ?_) (fun hc34 => ?_)
    · skip
      refine opW T3 (mkF m 40 #[rv a0, iv 2, iv c2, iv x3] [(.int 65), (.int c2)]) (fun _ k => XS.icmpNo X3.here hx rfl (hb hby d4_34) rfl (tlt hc34).2.2.2 (XS.iloadN X3.here hx rfl (hb hby d4_37) rfl (XS.bipush X3.here hx rfl (hb hby d4_38) k))) ?_
      refine own_iteTW Rt3 (Kt3 Z c0 c1 c2 a0 h0 n0) (fun hc40 => ?_) (fun hc40 => ?_)
      · skip
        refine opW T3 (mkF m 52 #[rv a0, iv 2, iv c2, iv x3] [(.int 48), (.int c2)]) (fun _ k => XS.icmpYes X3.here hx rfl (pc0 := 40) (pc' := 49) rfl (hb hby d4_40) rfl (tlt hc40).1 (by decide) (by decide) (XS.iloadN X3.here hx rfl (hb hby d4_49) rfl (XS.bipush X3.here hx rfl (hb hby d4_50) k))) ?_
        refine own_iteTW Rt3 (Kt3 Z c0 c1 c2 a0 h0 n0) (fun hc52 => ?_) (fun hc52 => ?_)
        · skip
          refine opW T3 (mkF m 65 #[rv a0, iv 2, iv c2, iv x3] []) (fun _ k => XS.icmpYes X3.here hx rfl (pc0 := 52) (pc' := 65) rfl (hb hby d4_52) rfl (tlt hc52).1 (by decide) (by decide) k) ?_
          exact gt3_65c hw c0 c1 c2 a0 x3 Bd hml hZ hown hS T3 X3 e3 hk C0 SZ0 NF0 KP0 W_a0 J0
        · skip
          refine opW T3 (mkF m 58 #[rv a0, iv 2, iv c2, iv x3] [(.int 57), (.int c2)]) (fun _ k => XS.icmpNo X3.here hx rfl (hb hby d4_52) rfl (flt hc52).1 (XS.iloadN X3.here hx rfl (hb hby d4_55) rfl (XS.bipush X3.here hx rfl (hb hby d4_56) k))) ?_
          refine own_iteTW Rt3 (Kt3 Z c0 c1 c2 a0 h0 n0) (fun hc58 => ?_) (fun hc58 => ?_)
          · skip
            refine opW T3 (mkF m 65 #[rv a0, iv 2, iv c2, iv x3] []) (fun _ k => XS.icmpYes X3.here hx rfl (pc0 := 58) (pc' := 65) rfl (hb hby d4_58) rfl (tlt hc58).2.2.1 (by decide) (by decide) k) ?_
            exact gt3_65c hw c0 c1 c2 a0 x3 Bd hml hZ hown hS T3 X3 e3 hk C0 SZ0 NF0 KP0 W_a0 J0
          · skip
            refine opW T3 (mkF m 61 #[rv a0, iv 2, iv c2, iv x3] []) (fun _ k => XS.icmpNo X3.here hx rfl (hb hby d4_58) rfl (flt hc58).2.2.1 k) ?_
            exact gt3_61c hw c0 c1 c2 a0 x3 Bd hml hZ hown hS T3 X3 e3 hk C0 SZ0 NF0 KP0 W_a0 J0
      · skip
        refine opW T3 (mkF m 46 #[rv a0, iv 2, iv c2, iv x3] [(.int 90), (.int c2)]) (fun _ k => XS.icmpNo X3.here hx rfl (hb hby d4_40) rfl (flt hc40).1 (XS.iloadN X3.here hx rfl (hb hby d4_43) rfl (XS.bipush X3.here hx rfl (hb hby d4_44) k))) ?_
        refine own_iteTW Rt3 (Kt3 Z c0 c1 c2 a0 h0 n0) (fun hc46 => ?_) (fun hc46 => ?_)
        · skip
          refine opW T3 (mkF m 52 #[rv a0, iv 2, iv c2, iv x3] [(.int 48), (.int c2)]) (fun _ k => XS.icmpNo X3.here hx rfl (hb hby d4_46) rfl (tlt hc46).2.2.2 (XS.iloadN X3.here hx rfl (hb hby d4_49) rfl (XS.bipush X3.here hx rfl (hb hby d4_50) k))) ?_
          refine own_iteTW Rt3 (Kt3 Z c0 c1 c2 a0 h0 n0) (fun hc52 => ?_) (fun hc52 => ?_)
          · skip
            refine opW T3 (mkF m 65 #[rv a0, iv 2, iv c2, iv x3] []) (fun _ k => XS.icmpYes X3.here hx rfl (pc0 := 52) (pc' := 65) rfl (hb hby d4_52) rfl (tlt hc52).1 (by decide) (by decide) k) ?_
            exact gt3_65c hw c0 c1 c2 a0 x3 Bd hml hZ hown hS T3 X3 e3 hk C0 SZ0 NF0 KP0 W_a0 J0
          · skip
            refine opW T3 (mkF m 58 #[rv a0, iv 2, iv c2, iv x3] [(.int 57), (.int c2)]) (fun _ k => XS.icmpNo X3.here hx rfl (hb hby d4_52) rfl (flt hc52).1 (XS.iloadN X3.here hx rfl (hb hby d4_55) rfl (XS.bipush X3.here hx rfl (hb hby d4_56) k))) ?_
            refine own_iteTW Rt3 (Kt3 Z c0 c1 c2 a0 h0 n0) (fun hc58 => ?_) (fun hc58 => ?_)
            · skip
              refine opW T3 (mkF m 65 #[rv a0, iv 2, iv c2, iv x3] []) (fun _ k => XS.icmpYes X3.here hx rfl (pc0 := 58) (pc' := 65) rfl (hb hby d4_58) rfl (tlt hc58).2.2.1 (by decide) (by decide) k) ?_
              exact gt3_65c hw c0 c1 c2 a0 x3 Bd hml hZ hown hS T3 X3 e3 hk C0 SZ0 NF0 KP0 W_a0 J0
            · skip
              refine opW T3 (mkF m 61 #[rv a0, iv 2, iv c2, iv x3] []) (fun _ k => XS.icmpNo X3.here hx rfl (hb hby d4_58) rfl (flt hc58).2.2.1 k) ?_
              exact gt3_61c hw c0 c1 c2 a0 x3 Bd hml hZ hown hS T3 X3 e3 hk C0 SZ0 NF0 KP0 W_a0 J0
        · skip
          refine opW T3 (mkF m 61 #[rv a0, iv 2, iv c2, iv x3] []) (fun _ k => XS.icmpYes X3.here hx rfl (pc0 := 46) (pc' := 61) rfl (hb hby d4_46) rfl (flt hc46).2.2.2 (by decide) (by decide) k) ?_
          exact gt3_61c hw c0 c1 c2 a0 x3 Bd hml hZ hown hS T3 X3 e3 hk C0 SZ0 NF0 KP0 W_a0 J0
    · skip
      refine opW T3 (mkF m 61 #[rv a0, iv 2, iv c2, iv x3] []) (fun _ k => XS.icmpYes X3.here hx rfl (pc0 := 34) (pc' := 61) rfl (hb hby d4_34) rfl (flt hc34).2.2.2 (by decide) (by decide) k) ?_
      exact gt3_61c hw c0 c1 c2 a0 x3 Bd hml hZ hown hS T3 X3 e3 hk C0 SZ0 NF0 KP0 W_a0 J0
def ft3_65b (c0 c1 c2 : Int32) : Int32 := (if (fio1_0 c1) < (0 : Int32) then (0 : Int32) else (ft3_82b c0 c1 c2))
set_option maxRecDepth 65536 in
set_option maxHeartbeats 40000000 in
theorem gt3_65b (hw : HW aw Z) {h0 : Heap} {n0 : Nat} (c0 c1 c2 : Int32) (a0 : Addr) (x3 : Int32)
    (Bd : BodyLoose p l y28 (head1 (Jvm.Cond.code y28 Gd 4 (some .boolean) :: ws) Qt3) Gd 4 (some .boolean) e s m #[(.ref a0)] below meth c s₁) (hml : c.maxLocals = 4) {vm0 : Vm} {k0 : Nat} (hZ : Z.Warmed39 vm0) (hown : vm0.findClass cR = some m.cls) (hS : s.Since vm0 k0) (T0 : State) {locs : List Loc} (X0 : Stand p l e Qt3 (s.setVm vm0) m #[(.ref a0)] below meth c T0 locs 2 64) {h : Heap} (e0 : T0.heap = h) (hk : k0 ≤ h.size) (C0 : CHv Z consts_1 vm0 h) (SZ0 : n0 ≤ h.size) (NF0 : Fr n0 locs) (KP0 : Keep h0 h []) (W_a0 : own_S3 Z h n0 a0 c0 c1 c2) (J0 : own_J Z h) :
    own_GoW p e below s Qt3.cells Qt3.slots (Rt3 (ft3_65b c0 c1 c2)) (Kt3 Z c0 c1 c2 a0 h0 n0 (ft3_65b c0 c1 c2)) (T0.setTop (mkF m 65 #[rv a0, iv 1, iv c1, iv x3] [])) := by
  have hx := Bd.exec
  have hby := Bd.bytes
  have hnm := (name_of_methodNamed Bd.named Bd.method).1
  unfold ft3_65b
  refine opW T0 (mkF m 68 #[rv a0, iv 1, iv c1, iv 0] [(.int 0)]) (fun _ k => XS.iconst X0.here hx rfl (hb hby d4_65) (XS.istoreN X0.here hx rfl (hb hby d4_66) rfl (l' := #[rv a0, iv 1, iv c1, iv 0]) rfl (XS.iloadN X0.here hx rfl (hb hby d4_67) rfl k))) ?_
  have hd1 : (0 : Int32) = (0 : Int32) := by decide
  refine opW T0 (mkF m 71 #[rv a0, iv 1, iv c1, iv 0] []) (fun _ k => XS.ifNo X0.here hx rfl (hb hby d4_68) rfl ((if0 _ _).trans (teq hd1).2) k) ?_
  obtain ⟨a2, T2, h2, kk2, b2, kb2, X2, e2, E2, hS, hk, hZ, hown, EX2, FC2, FV2, AB2, -, -, CR2, LT2, -, st'⟩ := ldcCH X0 hx hZ hown (ow hw 79 rfl) (own_wS hw) e0 hS hk (own_EW hw) (List.mem_of_getElem? (i := 0) rfl) C0 (vs := [(33 : Int32), (35 : Int32), (36 : Int32), (37 : Int32), (38 : Int32), (39 : Int32), (42 : Int32), (43 : Int32), (45 : Int32), (46 : Int32), (94 : Int32), (95 : Int32), (96 : Int32), (124 : Int32), (126 : Int32)].map Value.int) (z := 15) ⟨by decide, by decide⟩ (by decide) (by decide) (g := (mkF m 71 #[rv a0, iv 1, iv c1, iv 0] [])) rfl (hb hby d4_71) (n := 60) (by decide) (by decide) (by decide) (by decide)
  have SZ2 : n0 ≤ h2.size := Nat.le_trans SZ0 E2.1
  have KP2 := KP0.ext E2
  have Cx2 := CR2.1
  have f3 := W_a0.ext E2
  have f4 := own_J.ext J0 E2
  have f5 : own_Pv Z h2 b2 (15 : Int32) [(33 : Int32), (35 : Int32), (36 : Int32), (37 : Int32), (38 : Int32), (39 : Int32), (42 : Int32), (43 : Int32), (45 : Int32), (46 : Int32), (94 : Int32), (95 : Int32), (96 : Int32), (124 : Int32), (126 : Int32)] .byte := ⟨_, AB2⟩
  refine opW T2 (mkF m 74 #[rv a0, iv 1, iv c1, iv 0] [(.int c1), (.ref a2)]) (fun _ k => st' _ (XS.iloadN X2.here hx rfl (hb hby d4_73) rfl k)) ?_
  obtain ⟨cq6, kq6, qa6, qb6, qc6⟩ := isOf (s := s.setVm _) hZ e2 EX2
  obtain ⟨_, _, ⟨T6, L6, k6, n6⟩, -, X6', ⟨Lc6, hQ6, l6, y6, z6⟩, st'⟩ := X2.virtualBack hx (y := y18) (z := y18) hown (mvT hZ (ow hw 80 rfl)) (mvT hZ (ow hw 81 rfl)) (notFace_of_selects (args := #[]) (mvT hZ (ow hw 83 rfl))) (mvT hZ (ow hw 83 rfl)) (mvT hZ (ow hw 82 rfl)) (by decide) (backOf (W := 0) (rmio1 l Z aw hw [] c1 a2 b2 h2 n0 SZ2 EX2 FV2 FC2 f5 f4) hZ (ow hw 84 rfl) (ow hw 4 rfl) (by decide) (by decide)) qa6 qc6 (g := (mkF m 74 #[rv a0, iv 1, iv c1, iv 0] [(.int c1), (.ref a2)])) rfl (by rw [hml]; rfl) (Steps.refl _) (argsL := [(.int c1)]) (rest := []) (lenOf own_pd11 rfl) rfl (by show 2 * 0 + _ ≤ _; exact Nat.le_of_eq rfl) (hb hby d4_74) (fun _ _ => ⟨rfl, e2, (by decide : 4 + 0 ≤ _), (by decide : 128 + 0 ≤ _)⟩)
  dsimp only [Pt.U, Pt.locs, Pt.cells, Pt.slots] at X6' l6 y6 z6 st' hQ6
  subst l6 y6 z6
  obtain ⟨rfl, rfl, e6⟩ := hQ6
  have X6 : Stand p l e Qt3 _ m #[(.ref a0)] below meth c T6 _ 4 128 := own_locs X6'
  refine opW T6 (mkF m 77 #[rv a0, iv 1, iv c1, iv 0] [(.int (fio1_0 c1))]) (fun _ k => st'.trans k) ?_
  refine own_iteTW Rt3 (Kt3 Z c0 c1 c2 a0 h0 n0) (fun hc77 => ?_) (fun hc77 => ?_)
  · skip
    refine opW T6 (mkF m 81 #[rv a0, iv 1, iv c1, iv 0] [(.int 0)]) (fun _ k => XS.ifNo X6.here hx rfl (hb hby d4_77) rfl ((if0 _ _).trans (tlt hc77).2.1) (XS.iconst X6.here hx rfl (hb hby d4_80) k)) ?_
    exact own_retW hS (by rw [e6]; exact hk) (w := (.int 0)) X6 hx Bd.notSynchronized Bd.returns rfl (Or.inl ⟨rfl, by simp, _, rfl⟩) (hb hby d4_81) (by rw [e6]; exact ⟨NF0, KP2⟩) (by decide) (by decide)
  · skip
    refine opW T6 (mkF m 82 #[rv a0, iv 1, iv c1, iv 0] []) (fun _ k => XS.ifYes X6.here hx rfl (pc0 := 77) (pc' := 82) rfl (hb hby d4_77) rfl ((if0 _ _).trans (flt hc77).2.1) (by decide) (by decide) k) ?_
    exact gt3_82b hw c0 c1 c2 a0 (0 : Int32) Bd hml hZ hown hS T6 X6 e6 hk Cx2 SZ2 NF0 KP2 f3 f4
def ft3_61b (c0 c1 c2 : Int32) : Int32 := (ft3_82b c0 c1 c2)
set_option maxRecDepth 65536 in
set_option maxHeartbeats 40000000 in
theorem gt3_61b (hw : HW aw Z) {h0 : Heap} {n0 : Nat} (c0 c1 c2 : Int32) (a0 : Addr) (x3 : Int32)
    (Bd : BodyLoose p l y28 (head1 (Jvm.Cond.code y28 Gd 4 (some .boolean) :: ws) Qt3) Gd 4 (some .boolean) e s m #[(.ref a0)] below meth c s₁) (hml : c.maxLocals = 4) {vm0 : Vm} {k0 : Nat} (hZ : Z.Warmed39 vm0) (hown : vm0.findClass cR = some m.cls) (hS : s.Since vm0 k0) (T0 : State) {locs : List Loc} (X0 : Stand p l e Qt3 (s.setVm vm0) m #[(.ref a0)] below meth c T0 locs 2 64) {h : Heap} (e0 : T0.heap = h) (hk : k0 ≤ h.size) (C0 : CHv Z consts_1 vm0 h) (SZ0 : n0 ≤ h.size) (NF0 : Fr n0 locs) (KP0 : Keep h0 h []) (W_a0 : own_S3 Z h n0 a0 c0 c1 c2) (J0 : own_J Z h) :
    own_GoW p e below s Qt3.cells Qt3.slots (Rt3 (ft3_61b c0 c1 c2)) (Kt3 Z c0 c1 c2 a0 h0 n0 (ft3_61b c0 c1 c2)) (T0.setTop (mkF m 61 #[rv a0, iv 1, iv c1, iv x3] [])) := by
  have hx := Bd.exec
  have hby := Bd.bytes
  have hnm := (name_of_methodNamed Bd.named Bd.method).1
  unfold ft3_61b
  refine opW T0 (mkF m 68 #[rv a0, iv 1, iv c1, iv 1] [(.int 1)]) (fun _ k => XS.iconst X0.here hx rfl (hb hby d4_61) (XS.goto X0.here hx rfl (pc0 := 62) (pc' := 66) rfl (hb hby d4_62) (by decide) (by decide) (XS.istoreN X0.here hx rfl (hb hby d4_66) rfl (l' := #[rv a0, iv 1, iv c1, iv 1]) rfl (XS.iloadN X0.here hx rfl (hb hby d4_67) rfl k)))) ?_
  have hd1 : ¬ ((1 : Int32) = (0 : Int32)) := by decide
  refine opW T0 (mkF m 82 #[rv a0, iv 1, iv c1, iv 1] []) (fun _ k => XS.ifYes X0.here hx rfl (pc0 := 68) (pc' := 82) rfl (hb hby d4_68) rfl ((if0 _ _).trans (feq hd1).2) (by decide) (by decide) k) ?_
  exact gt3_82b hw c0 c1 c2 a0 (1 : Int32) Bd hml hZ hown hS T0 (X0.mono (by decide) (by decide)) e0 hk C0 SZ0 NF0 KP0 W_a0 J0
def ft3_82a (c0 c1 c2 : Int32) : Int32 := (if c1 < (97 : Int32) then (if c1 < (65 : Int32) then (if c1 < (48 : Int32) then (ft3_65b c0 c1 c2) else (if (57 : Int32) < c1 then (ft3_65b c0 c1 c2) else (ft3_61b c0 c1 c2))) else (if (90 : Int32) < c1 then (if c1 < (48 : Int32) then (ft3_65b c0 c1 c2) else (if (57 : Int32) < c1 then (ft3_65b c0 c1 c2) else (ft3_61b c0 c1 c2))) else (ft3_61b c0 c1 c2))) else (if (122 : Int32) < c1 then (if c1 < (65 : Int32) then (if c1 < (48 : Int32) then (ft3_65b c0 c1 c2) else (if (57 : Int32) < c1 then (ft3_65b c0 c1 c2) else (ft3_61b c0 c1 c2))) else (if (90 : Int32) < c1 then (if c1 < (48 : Int32) then (ft3_65b c0 c1 c2) else (if (57 : Int32) < c1 then (ft3_65b c0 c1 c2) else (ft3_61b c0 c1 c2))) else (ft3_61b c0 c1 c2))) else (ft3_61b c0 c1 c2)))
set_option maxRecDepth 65536 in
set_option maxHeartbeats 40000000 in
theorem gt3_82a (hw : HW aw Z) {h0 : Heap} {n0 : Nat} (c0 c1 c2 : Int32) (a0 : Addr) (x3 : Int32)
    (Bd : BodyLoose p l y28 (head1 (Jvm.Cond.code y28 Gd 4 (some .boolean) :: ws) Qt3) Gd 4 (some .boolean) e s m #[(.ref a0)] below meth c s₁) (hml : c.maxLocals = 4) {vm0 : Vm} {k0 : Nat} (hZ : Z.Warmed39 vm0) (hown : vm0.findClass cR = some m.cls) (hS : s.Since vm0 k0) (T0 : State) {locs : List Loc} (X0 : Stand p l e Qt3 (s.setVm vm0) m #[(.ref a0)] below meth c T0 locs 2 64) {h : Heap} (e0 : T0.heap = h) (hk : k0 ≤ h.size) (C0 : CHv Z consts_1 vm0 h) (SZ0 : n0 ≤ h.size) (NF0 : Fr n0 locs) (KP0 : Keep h0 h []) (W_a0 : own_S3 Z h n0 a0 c0 c1 c2) (J0 : own_J Z h) :
    own_GoW p e below s Qt3.cells Qt3.slots (Rt3 (ft3_82a c0 c1 c2)) (Kt3 Z c0 c1 c2 a0 h0 n0 (ft3_82a c0 c1 c2)) (T0.setTop (mkF m 82 #[rv a0, iv 0, iv c0, iv x3] [])) := by
  have hx := Bd.exec
  have hby := Bd.bytes
  have hnm := (name_of_methodNamed Bd.named Bd.method).1
  unfold ft3_82a
  refine opW T0 (mkF m 13 #[rv a0, iv 1, iv c0, iv x3] [(.ref a0), (.int 1)]) (fun _ k => XS.iinc X0.here hx rfl (hb hby d4_82) rfl (l' := #[rv a0, iv 1, iv c0, iv x3]) rfl (XS.goto X0.here hx rfl (pc0 := 85) (pc' := 11) rfl (hb hby d4_85) (by decide) (by decide) (XS.iloadN X0.here hx rfl (hb hby d4_11) rfl (XS.aloadN X0.here hx rfl (hb hby d4_12) rfl rfl k)))) ?_
  have ex1 := own_S3.exa W_a0
  obtain ⟨cq1, kq1, qa1, qb1, qc1⟩ := isOf (s := s.setVm _) hZ e0 ex1
  obtain ⟨_, _, ⟨T1, L1, k1, n1⟩, -, X1', ⟨Lc1, hQ1, l1, y1, z1⟩, st'⟩ := X0.virtualBack hx (y := y9) (z := y9) hown (mvT hZ (ow hw 47 rfl)) (mvT hZ (ow hw 48 rfl)) (notFace_of_selects (args := #[]) (mvT hZ (ow hw 50 rfl))) (mvT hZ (ow hw 50 rfl)) (mvT hZ (ow hw 49 rfl)) (by decide) (backOf (W := 1) (rmlenw3 l Z aw hw [] c0 c1 c2 a0 h n0 SZ0 W_a0 J0) hZ (ow hw 51 rfl) (ow hw 4 rfl) (by decide) (by decide)) qa1 qc1 (g := (mkF m 13 #[rv a0, iv 1, iv c0, iv x3] [(.ref a0), (.int 1)])) rfl (by rw [hml]; rfl) (Steps.refl _) (argsL := []) (rest := [(.int 1)]) (lenOf own_pd10 rfl) rfl (by show 2 * 0 + _ ≤ _; exact Nat.le_of_eq rfl) (hb hby d4_13) (fun _ _ => ⟨rfl, e0, (by decide : 2 + 0 ≤ _), (by decide : 64 + 0 ≤ _)⟩)
  dsimp only [Pt.U, Pt.locs, Pt.cells, Pt.slots] at X1' l1 y1 z1 st' hQ1
  subst l1 y1 z1
  obtain ⟨rfl, rfl, e1⟩ := hQ1
  have X1 : Stand p l e Qt3 _ m #[(.ref a0)] below meth c T1 _ 2 64 := own_locs X1'
  refine opW T1 (mkF m 16 #[rv a0, iv 1, iv c0, iv x3] [(.int 3), (.int 1)]) (fun _ k => st'.trans k) ?_
  have hd2 : (1 : Int32) < (3 : Int32) := by decide
  refine opW T1 (mkF m 21 #[rv a0, iv 1, iv c0, iv x3] [(.int 1), (.ref a0)]) (fun _ k => XS.icmpNo X1.here hx rfl (hb hby d4_16) rfl (tlt hd2).2.1 (XS.aloadN X1.here hx rfl (hb hby d4_19) rfl rfl (XS.iloadN X1.here hx rfl (hb hby d4_20) rfl k))) ?_
  have ex3 := own_S3.exa W_a0
  obtain ⟨cq3, kq3, qa3, qb3, qc3⟩ := isOf (s := s.setVm _) hZ e1 ex3
  obtain ⟨_, _, ⟨T3, L3, k3, n3⟩, -, X3', ⟨Lc3, hQ3, l3, y3, z3⟩, st'⟩ := X1.virtualBack hx (y := y11) (z := y11) hown (mvT hZ (ow hw 57 rfl)) (mvT hZ (ow hw 58 rfl)) (notFace_of_selects (args := #[]) (mvT hZ (ow hw 60 rfl))) (mvT hZ (ow hw 60 rfl)) (mvT hZ (ow hw 59 rfl)) (by decide) (backOf (W := 0) (rmchw31 l Z aw hw [] c0 c1 c2 a0 h n0 SZ0 W_a0 J0) hZ (ow hw 61 rfl) (ow hw 4 rfl) (by decide) (by decide)) qa3 qc3 (g := (mkF m 21 #[rv a0, iv 1, iv c0, iv x3] [(.int 1), (.ref a0)])) rfl (by rw [hml]; rfl) (Steps.refl _) (argsL := [(.int 1)]) (rest := []) (lenOf own_pd18 rfl) rfl (by show 2 * 0 + _ ≤ _; exact Nat.le_of_eq rfl) (hb hby d4_21) (fun _ _ => ⟨rfl, e1, (by decide : 2 + 0 ≤ _), (by decide : 64 + 0 ≤ _)⟩)
  dsimp only [Pt.U, Pt.locs, Pt.cells, Pt.slots] at X3' l3 y3 z3 st' hQ3
  subst l3 y3 z3
  obtain ⟨rfl, rfl, e3⟩ := hQ3
  have X3 : Stand p l e Qt3 _ m #[(.ref a0)] below meth c T3 _ 2 64 := own_locs X3'
  refine opW T3 (mkF m 28 #[rv a0, iv 1, iv c1, iv x3] [(.int 97), (.int c1)]) (fun _ k => st'.trans (XS.istoreN X3.here hx rfl (hb hby d4_24) rfl (l' := #[rv a0, iv 1, iv c1, iv x3]) rfl (XS.iloadN X3.here hx rfl (hb hby d4_25) rfl (XS.bipush X3.here hx rfl (hb hby d4_26) k)))) ?_
  refine own_iteTW Rt3 (Kt3 Z c0 c1 c2 a0 h0 n0) (fun hc28 => ?_) (fun hc28 => ?_)
  · skip
    refine opW T3 (mkF m 40 #[rv a0, iv 1, iv c1, iv x3] [(.int 65), (.int c1)]) (fun _ k => XS.icmpYes X3.here hx rfl (pc0 := 28) (pc' := 37) rfl (hb hby d4_28) rfl (tlt hc28).1 (by decide) (by decide) (XS.iloadN X3.here hx rfl (hb hby d4_37) rfl (XS.bipush X3.here hx rfl (hb hby d4_38) k))) ?_
    refine own_iteTW Rt3 (Kt3 Z c0 c1 c2 a0 h0 n0) (fun hc40 => ?_) (fun hc40 => ?_)
    · skip
      refine opW T3 (mkF m 52 #[rv a0, iv 1, iv c1, iv x3] [(.int 48), (.int c1)]) (fun _ k => XS.icmpYes X3.here hx rfl (pc0 := 40) (pc' := 49) rfl (hb hby d4_40) rfl (tlt hc40).1 (by decide) (by decide) (XS.iloadN X3.here hx rfl (hb hby d4_49) rfl (XS.bipush X3.here hx rfl (hb hby d4_50) k))) ?_
      refine own_iteTW Rt3 (Kt3 Z c0 c1 c2 a0 h0 n0) (fun hc52 => ?_) (fun hc52 => ?_)
      · skip
        refine opW T3 (mkF m 65 #[rv a0, iv 1, iv c1, iv x3] []) (fun _ k => XS.icmpYes X3.here hx rfl (pc0 := 52) (pc' := 65) rfl (hb hby d4_52) rfl (tlt hc52).1 (by decide) (by decide) k) ?_
        exact gt3_65b hw c0 c1 c2 a0 x3 Bd hml hZ hown hS T3 X3 e3 hk C0 SZ0 NF0 KP0 W_a0 J0
      · skip
        refine opW T3 (mkF m 58 #[rv a0, iv 1, iv c1, iv x3] [(.int 57), (.int c1)]) (fun _ k => XS.icmpNo X3.here hx rfl (hb hby d4_52) rfl (flt hc52).1 (XS.iloadN X3.here hx rfl (hb hby d4_55) rfl (XS.bipush X3.here hx rfl (hb hby d4_56) k))) ?_
        refine own_iteTW Rt3 (Kt3 Z c0 c1 c2 a0 h0 n0) (fun hc58 => ?_) (fun hc58 => ?_)
        · skip
          refine opW T3 (mkF m 65 #[rv a0, iv 1, iv c1, iv x3] []) (fun _ k => XS.icmpYes X3.here hx rfl (pc0 := 58) (pc' := 65) rfl (hb hby d4_58) rfl (tlt hc58).2.2.1 (by decide) (by decide) k) ?_
          exact gt3_65b hw c0 c1 c2 a0 x3 Bd hml hZ hown hS T3 X3 e3 hk C0 SZ0 NF0 KP0 W_a0 J0
        · skip
          refine opW T3 (mkF m 61 #[rv a0, iv 1, iv c1, iv x3] []) (fun _ k => XS.icmpNo X3.here hx rfl (hb hby d4_58) rfl (flt hc58).2.2.1 k) ?_
          exact gt3_61b hw c0 c1 c2 a0 x3 Bd hml hZ hown hS T3 X3 e3 hk C0 SZ0 NF0 KP0 W_a0 J0
    · skip
      refine opW T3 (mkF m 46 #[rv a0, iv 1, iv c1, iv x3] [(.int 90), (.int c1)]) (fun _ k => XS.icmpNo X3.here hx rfl (hb hby d4_40) rfl (flt hc40).1 (XS.iloadN X3.here hx rfl (hb hby d4_43) rfl (XS.bipush X3.here hx rfl (hb hby d4_44) k))) ?_
      refine own_iteTW Rt3 (Kt3 Z c0 c1 c2 a0 h0 n0) (fun hc46 => ?_) (fun hc46 => ?_)
      · skip
        refine opW T3 (mkF m 52 #[rv a0, iv 1, iv c1, iv x3] [(.int 48), (.int c1)]) (fun _ k => XS.icmpNo X3.here hx rfl (hb hby d4_46) rfl (tlt hc46).2.2.2 (XS.iloadN X3.here hx rfl (hb hby d4_49) rfl (XS.bipush X3.here hx rfl (hb hby d4_50) k))) ?_
        refine own_iteTW Rt3 (Kt3 Z c0 c1 c2 a0 h0 n0) (fun hc52 => ?_) (fun hc52 => ?_)
        · skip
          refine opW T3 (mkF m 65 #[rv a0, iv 1, iv c1, iv x3] []) (fun _ k => XS.icmpYes X3.here hx rfl (pc0 := 52) (pc' := 65) rfl (hb hby d4_52) rfl (tlt hc52).1 (by decide) (by decide) k) ?_
          exact gt3_65b hw c0 c1 c2 a0 x3 Bd hml hZ hown hS T3 X3 e3 hk C0 SZ0 NF0 KP0 W_a0 J0
        · skip
          refine opW T3 (mkF m 58 #[rv a0, iv 1, iv c1, iv x3] [(.int 57), (.int c1)]) (fun _ k => XS.icmpNo X3.here hx rfl (hb hby d4_52) rfl (flt hc52).1 (XS.iloadN X3.here hx rfl (hb hby d4_55) rfl (XS.bipush X3.here hx rfl (hb hby d4_56) k))) ?_
          refine own_iteTW Rt3 (Kt3 Z c0 c1 c2 a0 h0 n0) (fun hc58 => ?_) (fun hc58 => ?_)
          · skip
            refine opW T3 (mkF m 65 #[rv a0, iv 1, iv c1, iv x3] []) (fun _ k => XS.icmpYes X3.here hx rfl (pc0 := 58) (pc' := 65) rfl (hb hby d4_58) rfl (tlt hc58).2.2.1 (by decide) (by decide) k) ?_
            exact gt3_65b hw c0 c1 c2 a0 x3 Bd hml hZ hown hS T3 X3 e3 hk C0 SZ0 NF0 KP0 W_a0 J0
          · skip
            refine opW T3 (mkF m 61 #[rv a0, iv 1, iv c1, iv x3] []) (fun _ k => XS.icmpNo X3.here hx rfl (hb hby d4_58) rfl (flt hc58).2.2.1 k) ?_
            exact gt3_61b hw c0 c1 c2 a0 x3 Bd hml hZ hown hS T3 X3 e3 hk C0 SZ0 NF0 KP0 W_a0 J0
      · skip
        refine opW T3 (mkF m 61 #[rv a0, iv 1, iv c1, iv x3] []) (fun _ k => XS.icmpYes X3.here hx rfl (pc0 := 46) (pc' := 61) rfl (hb hby d4_46) rfl (flt hc46).2.2.2 (by decide) (by decide) k) ?_
        exact gt3_61b hw c0 c1 c2 a0 x3 Bd hml hZ hown hS T3 X3 e3 hk C0 SZ0 NF0 KP0 W_a0 J0
  · skip
    refine opW T3 (mkF m 34 #[rv a0, iv 1, iv c1, iv x3] [(.int 122), (.int c1)]) (fun _ k => XS.icmpNo X3.here hx rfl (hb hby d4_28) rfl (flt hc28).1 (XS.iloadN X3.here hx rfl (hb hby d4_31) rfl (XS.bipush X3.here hx rfl (hb hby d4_32) k))) ?_
    refine own_iteTW Rt3 (Kt3 Z c0 c1 c2 a0 h0 n0) (fun hc34 => ?_) (fun hc34 => ?_)
    · skip
      refine opW T3 (mkF m 40 #[rv a0, iv 1, iv c1, iv x3] [(.int 65), (.int c1)]) (fun _ k => XS.icmpNo X3.here hx rfl (hb hby d4_34) rfl (tlt hc34).2.2.2 (XS.iloadN X3.here hx rfl (hb hby d4_37) rfl (XS.bipush X3.here hx rfl (hb hby d4_38) k))) ?_
      refine own_iteTW Rt3 (Kt3 Z c0 c1 c2 a0 h0 n0) (fun hc40 => ?_) (fun hc40 => ?_)
      · skip
        refine opW T3 (mkF m 52 #[rv a0, iv 1, iv c1, iv x3] [(.int 48), (.int c1)]) (fun _ k => XS.icmpYes X3.here hx rfl (pc0 := 40) (pc' := 49) rfl (hb hby d4_40) rfl (tlt hc40).1 (by decide) (by decide) (XS.iloadN X3.here hx rfl (hb hby d4_49) rfl (XS.bipush X3.here hx rfl (hb hby d4_50) k))) ?_
        refine own_iteTW Rt3 (Kt3 Z c0 c1 c2 a0 h0 n0) (fun hc52 => ?_) (fun hc52 => ?_)
        · skip
          refine opW T3 (mkF m 65 #[rv a0, iv 1, iv c1, iv x3] []) (fun _ k => XS.icmpYes X3.here hx rfl (pc0 := 52) (pc' := 65) rfl (hb hby d4_52) rfl (tlt hc52).1 (by decide) (by decide) k) ?_
          exact gt3_65b hw c0 c1 c2 a0 x3 Bd hml hZ hown hS T3 X3 e3 hk C0 SZ0 NF0 KP0 W_a0 J0
        · skip
          refine opW T3 (mkF m 58 #[rv a0, iv 1, iv c1, iv x3] [(.int 57), (.int c1)]) (fun _ k => XS.icmpNo X3.here hx rfl (hb hby d4_52) rfl (flt hc52).1 (XS.iloadN X3.here hx rfl (hb hby d4_55) rfl (XS.bipush X3.here hx rfl (hb hby d4_56) k))) ?_
          refine own_iteTW Rt3 (Kt3 Z c0 c1 c2 a0 h0 n0) (fun hc58 => ?_) (fun hc58 => ?_)
          · skip
            refine opW T3 (mkF m 65 #[rv a0, iv 1, iv c1, iv x3] []) (fun _ k => XS.icmpYes X3.here hx rfl (pc0 := 58) (pc' := 65) rfl (hb hby d4_58) rfl (tlt hc58).2.2.1 (by decide) (by decide) k) ?_
            exact gt3_65b hw c0 c1 c2 a0 x3 Bd hml hZ hown hS T3 X3 e3 hk C0 SZ0 NF0 KP0 W_a0 J0
          · skip
            refine opW T3 (mkF m 61 #[rv a0, iv 1, iv c1, iv x3] []) (fun _ k => XS.icmpNo X3.here hx rfl (hb hby d4_58) rfl (flt hc58).2.2.1 k) ?_
            exact gt3_61b hw c0 c1 c2 a0 x3 Bd hml hZ hown hS T3 X3 e3 hk C0 SZ0 NF0 KP0 W_a0 J0
      · skip
        refine opW T3 (mkF m 46 #[rv a0, iv 1, iv c1, iv x3] [(.int 90), (.int c1)]) (fun _ k => XS.icmpNo X3.here hx rfl (hb hby d4_40) rfl (flt hc40).1 (XS.iloadN X3.here hx rfl (hb hby d4_43) rfl (XS.bipush X3.here hx rfl (hb hby d4_44) k))) ?_
        refine own_iteTW Rt3 (Kt3 Z c0 c1 c2 a0 h0 n0) (fun hc46 => ?_) (fun hc46 => ?_)
        · skip
          refine opW T3 (mkF m 52 #[rv a0, iv 1, iv c1, iv x3] [(.int 48), (.int c1)]) (fun _ k => XS.icmpNo X3.here hx rfl (hb hby d4_46) rfl (tlt hc46).2.2.2 (XS.iloadN X3.here hx rfl (hb hby d4_49) rfl (XS.bipush X3.here hx rfl (hb hby d4_50) k))) ?_
          refine own_iteTW Rt3 (Kt3 Z c0 c1 c2 a0 h0 n0) (fun hc52 => ?_) (fun hc52 => ?_)
          · skip
            refine opW T3 (mkF m 65 #[rv a0, iv 1, iv c1, iv x3] []) (fun _ k => XS.icmpYes X3.here hx rfl (pc0 := 52) (pc' := 65) rfl (hb hby d4_52) rfl (tlt hc52).1 (by decide) (by decide) k) ?_
            exact gt3_65b hw c0 c1 c2 a0 x3 Bd hml hZ hown hS T3 X3 e3 hk C0 SZ0 NF0 KP0 W_a0 J0
          · skip
            refine opW T3 (mkF m 58 #[rv a0, iv 1, iv c1, iv x3] [(.int 57), (.int c1)]) (fun _ k => XS.icmpNo X3.here hx rfl (hb hby d4_52) rfl (flt hc52).1 (XS.iloadN X3.here hx rfl (hb hby d4_55) rfl (XS.bipush X3.here hx rfl (hb hby d4_56) k))) ?_
            refine own_iteTW Rt3 (Kt3 Z c0 c1 c2 a0 h0 n0) (fun hc58 => ?_) (fun hc58 => ?_)
            · skip
              refine opW T3 (mkF m 65 #[rv a0, iv 1, iv c1, iv x3] []) (fun _ k => XS.icmpYes X3.here hx rfl (pc0 := 58) (pc' := 65) rfl (hb hby d4_58) rfl (tlt hc58).2.2.1 (by decide) (by decide) k) ?_
              exact gt3_65b hw c0 c1 c2 a0 x3 Bd hml hZ hown hS T3 X3 e3 hk C0 SZ0 NF0 KP0 W_a0 J0
            · skip
              refine opW T3 (mkF m 61 #[rv a0, iv 1, iv c1, iv x3] []) (fun _ k => XS.icmpNo X3.here hx rfl (hb hby d4_58) rfl (flt hc58).2.2.1 k) ?_
              exact gt3_61b hw c0 c1 c2 a0 x3 Bd hml hZ hown hS T3 X3 e3 hk C0 SZ0 NF0 KP0 W_a0 J0
        · skip
          refine opW T3 (mkF m 61 #[rv a0, iv 1, iv c1, iv x3] []) (fun _ k => XS.icmpYes X3.here hx rfl (pc0 := 46) (pc' := 61) rfl (hb hby d4_46) rfl (flt hc46).2.2.2 (by decide) (by decide) k) ?_
          exact gt3_61b hw c0 c1 c2 a0 x3 Bd hml hZ hown hS T3 X3 e3 hk C0 SZ0 NF0 KP0 W_a0 J0
    · skip
      refine opW T3 (mkF m 61 #[rv a0, iv 1, iv c1, iv x3] []) (fun _ k => XS.icmpYes X3.here hx rfl (pc0 := 34) (pc' := 61) rfl (hb hby d4_34) rfl (flt hc34).2.2.2 (by decide) (by decide) k) ?_
      exact gt3_61b hw c0 c1 c2 a0 x3 Bd hml hZ hown hS T3 X3 e3 hk C0 SZ0 NF0 KP0 W_a0 J0
def ft3_65a (c0 c1 c2 : Int32) : Int32 := (if (fio1_0 c0) < (0 : Int32) then (0 : Int32) else (ft3_82a c0 c1 c2))
set_option maxRecDepth 65536 in
set_option maxHeartbeats 40000000 in
theorem gt3_65a (hw : HW aw Z) {h0 : Heap} {n0 : Nat} (c0 c1 c2 : Int32) (a0 : Addr)
    (Bd : BodyLoose p l y28 (head1 (Jvm.Cond.code y28 Gd 4 (some .boolean) :: ws) Qt3) Gd 4 (some .boolean) e s m #[(.ref a0)] below meth c s₁) (hml : c.maxLocals = 4) {vm0 : Vm} {k0 : Nat} (hZ : Z.Warmed39 vm0) (hown : vm0.findClass cR = some m.cls) (hS : s.Since vm0 k0) (T0 : State) {locs : List Loc} (X0 : Stand p l e Qt3 (s.setVm vm0) m #[(.ref a0)] below meth c T0 locs 0 0) {h : Heap} (e0 : T0.heap = h) (hk : k0 ≤ h.size) (C0 : CHv Z consts_1 vm0 h) (SZ0 : n0 ≤ h.size) (NF0 : Fr n0 locs) (KP0 : Keep h0 h []) (W_a0 : own_S3 Z h n0 a0 c0 c1 c2) (J0 : own_J Z h) :
    own_GoW p e below s Qt3.cells Qt3.slots (Rt3 (ft3_65a c0 c1 c2)) (Kt3 Z c0 c1 c2 a0 h0 n0 (ft3_65a c0 c1 c2)) (T0.setTop (mkF m 65 #[rv a0, iv 0, iv c0, uu] [])) := by
  have hx := Bd.exec
  have hby := Bd.bytes
  have hnm := (name_of_methodNamed Bd.named Bd.method).1
  unfold ft3_65a
  refine opW T0 (mkF m 68 #[rv a0, iv 0, iv c0, iv 0] [(.int 0)]) (fun _ k => XS.iconst X0.here hx rfl (hb hby d4_65) (XS.istoreN X0.here hx rfl (hb hby d4_66) rfl (l' := #[rv a0, iv 0, iv c0, iv 0]) rfl (XS.iloadN X0.here hx rfl (hb hby d4_67) rfl k))) ?_
  have hd1 : (0 : Int32) = (0 : Int32) := by decide
  refine opW T0 (mkF m 71 #[rv a0, iv 0, iv c0, iv 0] []) (fun _ k => XS.ifNo X0.here hx rfl (hb hby d4_68) rfl ((if0 _ _).trans (teq hd1).2) k) ?_
  obtain ⟨a2, T2, h2, kk2, b2, kb2, X2, e2, E2, hS, hk, hZ, hown, EX2, FC2, FV2, AB2, -, -, CR2, LT2, -, st'⟩ := ldcCH X0 hx hZ hown (ow hw 79 rfl) (own_wS hw) e0 hS hk (own_EW hw) (List.mem_of_getElem? (i := 0) rfl) C0 (vs := [(33 : Int32), (35 : Int32), (36 : Int32), (37 : Int32), (38 : Int32), (39 : Int32), (42 : Int32), (43 : Int32), (45 : Int32), (46 : Int32), (94 : Int32), (95 : Int32), (96 : Int32), (124 : Int32), (126 : Int32)].map Value.int) (z := 15) ⟨by decide, by decide⟩ (by decide) (by decide) (g := (mkF m 71 #[rv a0, iv 0, iv c0, iv 0] [])) rfl (hb hby d4_71) (n := 60) (by decide) (by decide) (by decide) (by decide)
  have SZ2 : n0 ≤ h2.size := Nat.le_trans SZ0 E2.1
  have KP2 := KP0.ext E2
  have Cx2 := CR2.1
  have f3 := W_a0.ext E2
  have f4 := own_J.ext J0 E2
  have f5 : own_Pv Z h2 b2 (15 : Int32) [(33 : Int32), (35 : Int32), (36 : Int32), (37 : Int32), (38 : Int32), (39 : Int32), (42 : Int32), (43 : Int32), (45 : Int32), (46 : Int32), (94 : Int32), (95 : Int32), (96 : Int32), (124 : Int32), (126 : Int32)] .byte := ⟨_, AB2⟩
  refine opW T2 (mkF m 74 #[rv a0, iv 0, iv c0, iv 0] [(.int c0), (.ref a2)]) (fun _ k => st' _ (XS.iloadN X2.here hx rfl (hb hby d4_73) rfl k)) ?_
  obtain ⟨cq6, kq6, qa6, qb6, qc6⟩ := isOf (s := s.setVm _) hZ e2 EX2
  obtain ⟨_, _, ⟨T6, L6, k6, n6⟩, -, X6', ⟨Lc6, hQ6, l6, y6, z6⟩, st'⟩ := X2.virtualBack hx (y := y18) (z := y18) hown (mvT hZ (ow hw 80 rfl)) (mvT hZ (ow hw 81 rfl)) (notFace_of_selects (args := #[]) (mvT hZ (ow hw 83 rfl))) (mvT hZ (ow hw 83 rfl)) (mvT hZ (ow hw 82 rfl)) (by decide) (backOf (W := 0) (rmio1 l Z aw hw [] c0 a2 b2 h2 n0 SZ2 EX2 FV2 FC2 f5 f4) hZ (ow hw 84 rfl) (ow hw 4 rfl) (by decide) (by decide)) qa6 qc6 (g := (mkF m 74 #[rv a0, iv 0, iv c0, iv 0] [(.int c0), (.ref a2)])) rfl (by rw [hml]; rfl) (Steps.refl _) (argsL := [(.int c0)]) (rest := []) (lenOf own_pd11 rfl) rfl (by show 2 * 0 + _ ≤ _; exact Nat.le_of_eq rfl) (hb hby d4_74) (fun _ _ => ⟨rfl, e2, (by decide : 2 + 0 ≤ _), (by decide : 64 + 0 ≤ _)⟩)
  dsimp only [Pt.U, Pt.locs, Pt.cells, Pt.slots] at X6' l6 y6 z6 st' hQ6
  subst l6 y6 z6
  obtain ⟨rfl, rfl, e6⟩ := hQ6
  have X6 : Stand p l e Qt3 _ m #[(.ref a0)] below meth c T6 _ 2 64 := own_locs X6'
  refine opW T6 (mkF m 77 #[rv a0, iv 0, iv c0, iv 0] [(.int (fio1_0 c0))]) (fun _ k => st'.trans k) ?_
  refine own_iteTW Rt3 (Kt3 Z c0 c1 c2 a0 h0 n0) (fun hc77 => ?_) (fun hc77 => ?_)
  · skip
    refine opW T6 (mkF m 81 #[rv a0, iv 0, iv c0, iv 0] [(.int 0)]) (fun _ k => XS.ifNo X6.here hx rfl (hb hby d4_77) rfl ((if0 _ _).trans (tlt hc77).2.1) (XS.iconst X6.here hx rfl (hb hby d4_80) k)) ?_
    exact own_retW hS (by rw [e6]; exact hk) (w := (.int 0)) X6 hx Bd.notSynchronized Bd.returns rfl (Or.inl ⟨rfl, by simp, _, rfl⟩) (hb hby d4_81) (by rw [e6]; exact ⟨NF0, KP2⟩) (by decide) (by decide)
  · skip
    refine opW T6 (mkF m 82 #[rv a0, iv 0, iv c0, iv 0] []) (fun _ k => XS.ifYes X6.here hx rfl (pc0 := 77) (pc' := 82) rfl (hb hby d4_77) rfl ((if0 _ _).trans (flt hc77).2.1) (by decide) (by decide) k) ?_
    exact gt3_82a hw c0 c1 c2 a0 (0 : Int32) Bd hml hZ hown hS T6 X6 e6 hk Cx2 SZ2 NF0 KP2 f3 f4
def ft3_61a (c0 c1 c2 : Int32) : Int32 := (ft3_82a c0 c1 c2)
set_option maxRecDepth 65536 in
set_option maxHeartbeats 40000000 in
theorem gt3_61a (hw : HW aw Z) {h0 : Heap} {n0 : Nat} (c0 c1 c2 : Int32) (a0 : Addr)
    (Bd : BodyLoose p l y28 (head1 (Jvm.Cond.code y28 Gd 4 (some .boolean) :: ws) Qt3) Gd 4 (some .boolean) e s m #[(.ref a0)] below meth c s₁) (hml : c.maxLocals = 4) {vm0 : Vm} {k0 : Nat} (hZ : Z.Warmed39 vm0) (hown : vm0.findClass cR = some m.cls) (hS : s.Since vm0 k0) (T0 : State) {locs : List Loc} (X0 : Stand p l e Qt3 (s.setVm vm0) m #[(.ref a0)] below meth c T0 locs 0 0) {h : Heap} (e0 : T0.heap = h) (hk : k0 ≤ h.size) (C0 : CHv Z consts_1 vm0 h) (SZ0 : n0 ≤ h.size) (NF0 : Fr n0 locs) (KP0 : Keep h0 h []) (W_a0 : own_S3 Z h n0 a0 c0 c1 c2) (J0 : own_J Z h) :
    own_GoW p e below s Qt3.cells Qt3.slots (Rt3 (ft3_61a c0 c1 c2)) (Kt3 Z c0 c1 c2 a0 h0 n0 (ft3_61a c0 c1 c2)) (T0.setTop (mkF m 61 #[rv a0, iv 0, iv c0, uu] [])) := by
  have hx := Bd.exec
  have hby := Bd.bytes
  have hnm := (name_of_methodNamed Bd.named Bd.method).1
  unfold ft3_61a
  refine opW T0 (mkF m 68 #[rv a0, iv 0, iv c0, iv 1] [(.int 1)]) (fun _ k => XS.iconst X0.here hx rfl (hb hby d4_61) (XS.goto X0.here hx rfl (pc0 := 62) (pc' := 66) rfl (hb hby d4_62) (by decide) (by decide) (XS.istoreN X0.here hx rfl (hb hby d4_66) rfl (l' := #[rv a0, iv 0, iv c0, iv 1]) rfl (XS.iloadN X0.here hx rfl (hb hby d4_67) rfl k)))) ?_
  have hd1 : ¬ ((1 : Int32) = (0 : Int32)) := by decide
  refine opW T0 (mkF m 82 #[rv a0, iv 0, iv c0, iv 1] []) (fun _ k => XS.ifYes X0.here hx rfl (pc0 := 68) (pc' := 82) rfl (hb hby d4_68) rfl ((if0 _ _).trans (feq hd1).2) (by decide) (by decide) k) ?_
  exact gt3_82a hw c0 c1 c2 a0 (1 : Int32) Bd hml hZ hown hS T0 (X0.mono (by decide) (by decide)) e0 hk C0 SZ0 NF0 KP0 W_a0 J0
def ft3_0 (c0 c1 c2 : Int32) : Int32 := (if c0 < (97 : Int32) then (if c0 < (65 : Int32) then (if c0 < (48 : Int32) then (ft3_65a c0 c1 c2) else (if (57 : Int32) < c0 then (ft3_65a c0 c1 c2) else (ft3_61a c0 c1 c2))) else (if (90 : Int32) < c0 then (if c0 < (48 : Int32) then (ft3_65a c0 c1 c2) else (if (57 : Int32) < c0 then (ft3_65a c0 c1 c2) else (ft3_61a c0 c1 c2))) else (ft3_61a c0 c1 c2))) else (if (122 : Int32) < c0 then (if c0 < (65 : Int32) then (if c0 < (48 : Int32) then (ft3_65a c0 c1 c2) else (if (57 : Int32) < c0 then (ft3_65a c0 c1 c2) else (ft3_61a c0 c1 c2))) else (if (90 : Int32) < c0 then (if c0 < (48 : Int32) then (ft3_65a c0 c1 c2) else (if (57 : Int32) < c0 then (ft3_65a c0 c1 c2) else (ft3_61a c0 c1 c2))) else (ft3_61a c0 c1 c2))) else (ft3_61a c0 c1 c2)))
set_option maxRecDepth 65536 in
set_option maxHeartbeats 40000000 in
theorem gt3_0 (hw : HW aw Z) {h0 : Heap} {n0 : Nat} (c0 c1 c2 : Int32) (a0 : Addr)
    (Bd : BodyLoose p l y28 (head1 (Jvm.Cond.code y28 Gd 4 (some .boolean) :: ws) Qt3) Gd 4 (some .boolean) e s m #[(.ref a0)] below meth c s₁) (hml : c.maxLocals = 4) {vm0 : Vm} {k0 : Nat} (hZ : Z.Warmed39 vm0) (hown : vm0.findClass cR = some m.cls) (hS : s.Since vm0 k0) (T0 : State) {locs : List Loc} (X0 : Stand p l e Qt3 (s.setVm vm0) m #[(.ref a0)] below meth c T0 locs 0 0) (e0 : T0.heap = h0) (hk : k0 ≤ h0.size) (C0 : CHv Z consts_1 vm0 h0) (SZ0 : n0 ≤ h0.size) (NF0 : Fr n0 locs) (KP0 : Keep h0 h0 []) (W_a0 : own_S3 Z h0 n0 a0 c0 c1 c2) (J0 : own_J Z h0) :
    own_GoW p e below s Qt3.cells Qt3.slots (Rt3 (ft3_0 c0 c1 c2)) (Kt3 Z c0 c1 c2 a0 h0 n0 (ft3_0 c0 c1 c2)) (T0.setTop (mkF m 0 #[rv a0, uu, uu, uu] [])) := by
  have hx := Bd.exec
  have hby := Bd.bytes
  have hnm := (name_of_methodNamed Bd.named Bd.method).1
  unfold ft3_0
  refine opW T0 (mkF m 1 #[rv a0, uu, uu, uu] [(.ref a0)]) (fun _ k => XS.aloadN X0.here hx rfl (hb hby d4_0) rfl rfl k) ?_
  have ex1 := own_S3.exa W_a0
  obtain ⟨cq1, kq1, qa1, qb1, qc1⟩ := isOf (s := s.setVm _) hZ e0 ex1
  obtain ⟨_, _, ⟨T1, L1, k1, n1⟩, -, X1', ⟨Lc1, hQ1, l1, y1, z1⟩, st'⟩ := X0.virtualBack hx (y := y10) (z := y10) hown (mvT hZ (ow hw 27 rfl)) (mvT hZ (ow hw 28 rfl)) (notFace_of_selects (args := #[]) (mvT hZ (ow hw 30 rfl))) (mvT hZ (ow hw 30 rfl)) (mvT hZ (ow hw 29 rfl)) (by decide) (backOf (W := 0) (rmiew3 l Z aw hw [] c0 c1 c2 a0 h0 n0 SZ0 W_a0) hZ (ow hw 31 rfl) (ow hw 4 rfl) (by decide) (by decide)) qa1 qc1 (g := (mkF m 1 #[rv a0, uu, uu, uu] [(.ref a0)])) rfl (by rw [hml]; rfl) (Steps.refl _) (argsL := []) (rest := []) (lenOf own_pd6 rfl) rfl (by show 2 * 0 + _ ≤ _; exact Nat.le_of_eq rfl) (hb hby d4_1) (fun _ _ => ⟨rfl, e0, (by decide : 0 + 0 ≤ _), (by decide : 0 + 0 ≤ _)⟩)
  dsimp only [Pt.U, Pt.locs, Pt.cells, Pt.slots] at X1' l1 y1 z1 st' hQ1
  subst l1 y1 z1
  obtain ⟨rfl, rfl, e1⟩ := hQ1
  have X1 : Stand p l e Qt3 _ m #[(.ref a0)] below meth c T1 _ 0 0 := own_locs X1'
  refine opW T1 (mkF m 4 #[rv a0, uu, uu, uu] [(.int 0)]) (fun _ k => st'.trans k) ?_
  have hd2 : (0 : Int32) = (0 : Int32) := by decide
  refine opW T1 (mkF m 13 #[rv a0, iv 0, uu, uu] [(.ref a0), (.int 0)]) (fun _ k => XS.ifYes X1.here hx rfl (pc0 := 4) (pc' := 9) rfl (hb hby d4_4) rfl ((if0 _ _).trans (teq hd2).1) (by decide) (by decide) (XS.iconst X1.here hx rfl (hb hby d4_9) (XS.istoreN X1.here hx rfl (hb hby d4_10) rfl (l' := #[rv a0, iv 0, uu, uu]) rfl (XS.iloadN X1.here hx rfl (hb hby d4_11) rfl (XS.aloadN X1.here hx rfl (hb hby d4_12) rfl rfl k))))) ?_
  have ex3 := own_S3.exa W_a0
  obtain ⟨cq3, kq3, qa3, qb3, qc3⟩ := isOf (s := s.setVm _) hZ e1 ex3
  obtain ⟨_, _, ⟨T3, L3, k3, n3⟩, -, X3', ⟨Lc3, hQ3, l3, y3, z3⟩, st'⟩ := X1.virtualBack hx (y := y9) (z := y9) hown (mvT hZ (ow hw 47 rfl)) (mvT hZ (ow hw 48 rfl)) (notFace_of_selects (args := #[]) (mvT hZ (ow hw 50 rfl))) (mvT hZ (ow hw 50 rfl)) (mvT hZ (ow hw 49 rfl)) (by decide) (backOf (W := 1) (rmlenw3 l Z aw hw [] c0 c1 c2 a0 h0 n0 SZ0 W_a0 J0) hZ (ow hw 51 rfl) (ow hw 4 rfl) (by decide) (by decide)) qa3 qc3 (g := (mkF m 13 #[rv a0, iv 0, uu, uu] [(.ref a0), (.int 0)])) rfl (by rw [hml]; rfl) (Steps.refl _) (argsL := []) (rest := [(.int 0)]) (lenOf own_pd10 rfl) rfl (by show 2 * 0 + _ ≤ _; exact Nat.le_of_eq rfl) (hb hby d4_13) (fun _ _ => ⟨rfl, e1, (by decide : 0 + 0 ≤ _), (by decide : 0 + 0 ≤ _)⟩)
  dsimp only [Pt.U, Pt.locs, Pt.cells, Pt.slots] at X3' l3 y3 z3 st' hQ3
  subst l3 y3 z3
  obtain ⟨rfl, rfl, e3⟩ := hQ3
  have X3 : Stand p l e Qt3 _ m #[(.ref a0)] below meth c T3 _ 0 0 := own_locs X3'
  refine opW T3 (mkF m 16 #[rv a0, iv 0, uu, uu] [(.int 3), (.int 0)]) (fun _ k => st'.trans k) ?_
  have hd4 : (0 : Int32) < (3 : Int32) := by decide
  refine opW T3 (mkF m 21 #[rv a0, iv 0, uu, uu] [(.int 0), (.ref a0)]) (fun _ k => XS.icmpNo X3.here hx rfl (hb hby d4_16) rfl (tlt hd4).2.1 (XS.aloadN X3.here hx rfl (hb hby d4_19) rfl rfl (XS.iloadN X3.here hx rfl (hb hby d4_20) rfl k))) ?_
  have ex5 := own_S3.exa W_a0
  obtain ⟨cq5, kq5, qa5, qb5, qc5⟩ := isOf (s := s.setVm _) hZ e3 ex5
  obtain ⟨_, _, ⟨T5, L5, k5, n5⟩, -, X5', ⟨Lc5, hQ5, l5, y5, z5⟩, st'⟩ := X3.virtualBack hx (y := y11) (z := y11) hown (mvT hZ (ow hw 57 rfl)) (mvT hZ (ow hw 58 rfl)) (notFace_of_selects (args := #[]) (mvT hZ (ow hw 60 rfl))) (mvT hZ (ow hw 60 rfl)) (mvT hZ (ow hw 59 rfl)) (by decide) (backOf (W := 0) (rmchw30 l Z aw hw [] c0 c1 c2 a0 h0 n0 SZ0 W_a0 J0) hZ (ow hw 61 rfl) (ow hw 4 rfl) (by decide) (by decide)) qa5 qc5 (g := (mkF m 21 #[rv a0, iv 0, uu, uu] [(.int 0), (.ref a0)])) rfl (by rw [hml]; rfl) (Steps.refl _) (argsL := [(.int 0)]) (rest := []) (lenOf own_pd18 rfl) rfl (by show 2 * 0 + _ ≤ _; exact Nat.le_of_eq rfl) (hb hby d4_21) (fun _ _ => ⟨rfl, e3, (by decide : 0 + 0 ≤ _), (by decide : 0 + 0 ≤ _)⟩)
  dsimp only [Pt.U, Pt.locs, Pt.cells, Pt.slots] at X5' l5 y5 z5 st' hQ5
  subst l5 y5 z5
  obtain ⟨rfl, rfl, e5⟩ := hQ5
  have X5 : Stand p l e Qt3 _ m #[(.ref a0)] below meth c T5 _ 0 0 := own_locs X5'
  refine opW T5 (mkF m 28 #[rv a0, iv 0, iv c0, uu] [(.int 97), (.int c0)]) (fun _ k => st'.trans (XS.istoreN X5.here hx rfl (hb hby d4_24) rfl (l' := #[rv a0, iv 0, iv c0, uu]) rfl (XS.iloadN X5.here hx rfl (hb hby d4_25) rfl (XS.bipush X5.here hx rfl (hb hby d4_26) k)))) ?_
  refine own_iteTW Rt3 (Kt3 Z c0 c1 c2 a0 h0 n0) (fun hc28 => ?_) (fun hc28 => ?_)
  · skip
    refine opW T5 (mkF m 40 #[rv a0, iv 0, iv c0, uu] [(.int 65), (.int c0)]) (fun _ k => XS.icmpYes X5.here hx rfl (pc0 := 28) (pc' := 37) rfl (hb hby d4_28) rfl (tlt hc28).1 (by decide) (by decide) (XS.iloadN X5.here hx rfl (hb hby d4_37) rfl (XS.bipush X5.here hx rfl (hb hby d4_38) k))) ?_
    refine own_iteTW Rt3 (Kt3 Z c0 c1 c2 a0 h0 n0) (fun hc40 => ?_) (fun hc40 => ?_)
    · skip
      refine opW T5 (mkF m 52 #[rv a0, iv 0, iv c0, uu] [(.int 48), (.int c0)]) (fun _ k => XS.icmpYes X5.here hx rfl (pc0 := 40) (pc' := 49) rfl (hb hby d4_40) rfl (tlt hc40).1 (by decide) (by decide) (XS.iloadN X5.here hx rfl (hb hby d4_49) rfl (XS.bipush X5.here hx rfl (hb hby d4_50) k))) ?_
      refine own_iteTW Rt3 (Kt3 Z c0 c1 c2 a0 h0 n0) (fun hc52 => ?_) (fun hc52 => ?_)
      · skip
        refine opW T5 (mkF m 65 #[rv a0, iv 0, iv c0, uu] []) (fun _ k => XS.icmpYes X5.here hx rfl (pc0 := 52) (pc' := 65) rfl (hb hby d4_52) rfl (tlt hc52).1 (by decide) (by decide) k) ?_
        exact gt3_65a hw c0 c1 c2 a0 Bd hml hZ hown hS T5 X5 e5 hk C0 SZ0 NF0 KP0 W_a0 J0
      · skip
        refine opW T5 (mkF m 58 #[rv a0, iv 0, iv c0, uu] [(.int 57), (.int c0)]) (fun _ k => XS.icmpNo X5.here hx rfl (hb hby d4_52) rfl (flt hc52).1 (XS.iloadN X5.here hx rfl (hb hby d4_55) rfl (XS.bipush X5.here hx rfl (hb hby d4_56) k))) ?_
        refine own_iteTW Rt3 (Kt3 Z c0 c1 c2 a0 h0 n0) (fun hc58 => ?_) (fun hc58 => ?_)
        · skip
          refine opW T5 (mkF m 65 #[rv a0, iv 0, iv c0, uu] []) (fun _ k => XS.icmpYes X5.here hx rfl (pc0 := 58) (pc' := 65) rfl (hb hby d4_58) rfl (tlt hc58).2.2.1 (by decide) (by decide) k) ?_
          exact gt3_65a hw c0 c1 c2 a0 Bd hml hZ hown hS T5 X5 e5 hk C0 SZ0 NF0 KP0 W_a0 J0
        · skip
          refine opW T5 (mkF m 61 #[rv a0, iv 0, iv c0, uu] []) (fun _ k => XS.icmpNo X5.here hx rfl (hb hby d4_58) rfl (flt hc58).2.2.1 k) ?_
          exact gt3_61a hw c0 c1 c2 a0 Bd hml hZ hown hS T5 X5 e5 hk C0 SZ0 NF0 KP0 W_a0 J0
    · skip
      refine opW T5 (mkF m 46 #[rv a0, iv 0, iv c0, uu] [(.int 90), (.int c0)]) (fun _ k => XS.icmpNo X5.here hx rfl (hb hby d4_40) rfl (flt hc40).1 (XS.iloadN X5.here hx rfl (hb hby d4_43) rfl (XS.bipush X5.here hx rfl (hb hby d4_44) k))) ?_
      refine own_iteTW Rt3 (Kt3 Z c0 c1 c2 a0 h0 n0) (fun hc46 => ?_) (fun hc46 => ?_)
      · skip
        refine opW T5 (mkF m 52 #[rv a0, iv 0, iv c0, uu] [(.int 48), (.int c0)]) (fun _ k => XS.icmpNo X5.here hx rfl (hb hby d4_46) rfl (tlt hc46).2.2.2 (XS.iloadN X5.here hx rfl (hb hby d4_49) rfl (XS.bipush X5.here hx rfl (hb hby d4_50) k))) ?_
        refine own_iteTW Rt3 (Kt3 Z c0 c1 c2 a0 h0 n0) (fun hc52 => ?_) (fun hc52 => ?_)
        · skip
          refine opW T5 (mkF m 65 #[rv a0, iv 0, iv c0, uu] []) (fun _ k => XS.icmpYes X5.here hx rfl (pc0 := 52) (pc' := 65) rfl (hb hby d4_52) rfl (tlt hc52).1 (by decide) (by decide) k) ?_
          exact gt3_65a hw c0 c1 c2 a0 Bd hml hZ hown hS T5 X5 e5 hk C0 SZ0 NF0 KP0 W_a0 J0
        · skip
          refine opW T5 (mkF m 58 #[rv a0, iv 0, iv c0, uu] [(.int 57), (.int c0)]) (fun _ k => XS.icmpNo X5.here hx rfl (hb hby d4_52) rfl (flt hc52).1 (XS.iloadN X5.here hx rfl (hb hby d4_55) rfl (XS.bipush X5.here hx rfl (hb hby d4_56) k))) ?_
          refine own_iteTW Rt3 (Kt3 Z c0 c1 c2 a0 h0 n0) (fun hc58 => ?_) (fun hc58 => ?_)
          · skip
            refine opW T5 (mkF m 65 #[rv a0, iv 0, iv c0, uu] []) (fun _ k => XS.icmpYes X5.here hx rfl (pc0 := 58) (pc' := 65) rfl (hb hby d4_58) rfl (tlt hc58).2.2.1 (by decide) (by decide) k) ?_
            exact gt3_65a hw c0 c1 c2 a0 Bd hml hZ hown hS T5 X5 e5 hk C0 SZ0 NF0 KP0 W_a0 J0
          · skip
            refine opW T5 (mkF m 61 #[rv a0, iv 0, iv c0, uu] []) (fun _ k => XS.icmpNo X5.here hx rfl (hb hby d4_58) rfl (flt hc58).2.2.1 k) ?_
            exact gt3_61a hw c0 c1 c2 a0 Bd hml hZ hown hS T5 X5 e5 hk C0 SZ0 NF0 KP0 W_a0 J0
      · skip
        refine opW T5 (mkF m 61 #[rv a0, iv 0, iv c0, uu] []) (fun _ k => XS.icmpYes X5.here hx rfl (pc0 := 46) (pc' := 61) rfl (hb hby d4_46) rfl (flt hc46).2.2.2 (by decide) (by decide) k) ?_
        exact gt3_61a hw c0 c1 c2 a0 Bd hml hZ hown hS T5 X5 e5 hk C0 SZ0 NF0 KP0 W_a0 J0
  · skip
    refine opW T5 (mkF m 34 #[rv a0, iv 0, iv c0, uu] [(.int 122), (.int c0)]) (fun _ k => XS.icmpNo X5.here hx rfl (hb hby d4_28) rfl (flt hc28).1 (XS.iloadN X5.here hx rfl (hb hby d4_31) rfl (XS.bipush X5.here hx rfl (hb hby d4_32) k))) ?_
    refine own_iteTW Rt3 (Kt3 Z c0 c1 c2 a0 h0 n0) (fun hc34 => ?_) (fun hc34 => ?_)
    · skip
      refine opW T5 (mkF m 40 #[rv a0, iv 0, iv c0, uu] [(.int 65), (.int c0)]) (fun _ k => XS.icmpNo X5.here hx rfl (hb hby d4_34) rfl (tlt hc34).2.2.2 (XS.iloadN X5.here hx rfl (hb hby d4_37) rfl (XS.bipush X5.here hx rfl (hb hby d4_38) k))) ?_
      refine own_iteTW Rt3 (Kt3 Z c0 c1 c2 a0 h0 n0) (fun hc40 => ?_) (fun hc40 => ?_)
      · skip
        refine opW T5 (mkF m 52 #[rv a0, iv 0, iv c0, uu] [(.int 48), (.int c0)]) (fun _ k => XS.icmpYes X5.here hx rfl (pc0 := 40) (pc' := 49) rfl (hb hby d4_40) rfl (tlt hc40).1 (by decide) (by decide) (XS.iloadN X5.here hx rfl (hb hby d4_49) rfl (XS.bipush X5.here hx rfl (hb hby d4_50) k))) ?_
        refine own_iteTW Rt3 (Kt3 Z c0 c1 c2 a0 h0 n0) (fun hc52 => ?_) (fun hc52 => ?_)
        · skip
          refine opW T5 (mkF m 65 #[rv a0, iv 0, iv c0, uu] []) (fun _ k => XS.icmpYes X5.here hx rfl (pc0 := 52) (pc' := 65) rfl (hb hby d4_52) rfl (tlt hc52).1 (by decide) (by decide) k) ?_
          exact gt3_65a hw c0 c1 c2 a0 Bd hml hZ hown hS T5 X5 e5 hk C0 SZ0 NF0 KP0 W_a0 J0
        · skip
          refine opW T5 (mkF m 58 #[rv a0, iv 0, iv c0, uu] [(.int 57), (.int c0)]) (fun _ k => XS.icmpNo X5.here hx rfl (hb hby d4_52) rfl (flt hc52).1 (XS.iloadN X5.here hx rfl (hb hby d4_55) rfl (XS.bipush X5.here hx rfl (hb hby d4_56) k))) ?_
          refine own_iteTW Rt3 (Kt3 Z c0 c1 c2 a0 h0 n0) (fun hc58 => ?_) (fun hc58 => ?_)
          · skip
            refine opW T5 (mkF m 65 #[rv a0, iv 0, iv c0, uu] []) (fun _ k => XS.icmpYes X5.here hx rfl (pc0 := 58) (pc' := 65) rfl (hb hby d4_58) rfl (tlt hc58).2.2.1 (by decide) (by decide) k) ?_
            exact gt3_65a hw c0 c1 c2 a0 Bd hml hZ hown hS T5 X5 e5 hk C0 SZ0 NF0 KP0 W_a0 J0
          · skip
            refine opW T5 (mkF m 61 #[rv a0, iv 0, iv c0, uu] []) (fun _ k => XS.icmpNo X5.here hx rfl (hb hby d4_58) rfl (flt hc58).2.2.1 k) ?_
            exact gt3_61a hw c0 c1 c2 a0 Bd hml hZ hown hS T5 X5 e5 hk C0 SZ0 NF0 KP0 W_a0 J0
      · skip
        refine opW T5 (mkF m 46 #[rv a0, iv 0, iv c0, uu] [(.int 90), (.int c0)]) (fun _ k => XS.icmpNo X5.here hx rfl (hb hby d4_40) rfl (flt hc40).1 (XS.iloadN X5.here hx rfl (hb hby d4_43) rfl (XS.bipush X5.here hx rfl (hb hby d4_44) k))) ?_
        refine own_iteTW Rt3 (Kt3 Z c0 c1 c2 a0 h0 n0) (fun hc46 => ?_) (fun hc46 => ?_)
        · skip
          refine opW T5 (mkF m 52 #[rv a0, iv 0, iv c0, uu] [(.int 48), (.int c0)]) (fun _ k => XS.icmpNo X5.here hx rfl (hb hby d4_46) rfl (tlt hc46).2.2.2 (XS.iloadN X5.here hx rfl (hb hby d4_49) rfl (XS.bipush X5.here hx rfl (hb hby d4_50) k))) ?_
          refine own_iteTW Rt3 (Kt3 Z c0 c1 c2 a0 h0 n0) (fun hc52 => ?_) (fun hc52 => ?_)
          · skip
            refine opW T5 (mkF m 65 #[rv a0, iv 0, iv c0, uu] []) (fun _ k => XS.icmpYes X5.here hx rfl (pc0 := 52) (pc' := 65) rfl (hb hby d4_52) rfl (tlt hc52).1 (by decide) (by decide) k) ?_
            exact gt3_65a hw c0 c1 c2 a0 Bd hml hZ hown hS T5 X5 e5 hk C0 SZ0 NF0 KP0 W_a0 J0
          · skip
            refine opW T5 (mkF m 58 #[rv a0, iv 0, iv c0, uu] [(.int 57), (.int c0)]) (fun _ k => XS.icmpNo X5.here hx rfl (hb hby d4_52) rfl (flt hc52).1 (XS.iloadN X5.here hx rfl (hb hby d4_55) rfl (XS.bipush X5.here hx rfl (hb hby d4_56) k))) ?_
            refine own_iteTW Rt3 (Kt3 Z c0 c1 c2 a0 h0 n0) (fun hc58 => ?_) (fun hc58 => ?_)
            · skip
              refine opW T5 (mkF m 65 #[rv a0, iv 0, iv c0, uu] []) (fun _ k => XS.icmpYes X5.here hx rfl (pc0 := 58) (pc' := 65) rfl (hb hby d4_58) rfl (tlt hc58).2.2.1 (by decide) (by decide) k) ?_
              exact gt3_65a hw c0 c1 c2 a0 Bd hml hZ hown hS T5 X5 e5 hk C0 SZ0 NF0 KP0 W_a0 J0
            · skip
              refine opW T5 (mkF m 61 #[rv a0, iv 0, iv c0, uu] []) (fun _ k => XS.icmpNo X5.here hx rfl (hb hby d4_58) rfl (flt hc58).2.2.1 k) ?_
              exact gt3_61a hw c0 c1 c2 a0 Bd hml hZ hown hS T5 X5 e5 hk C0 SZ0 NF0 KP0 W_a0 J0
        · skip
          refine opW T5 (mkF m 61 #[rv a0, iv 0, iv c0, uu] []) (fun _ k => XS.icmpYes X5.here hx rfl (pc0 := 46) (pc' := 61) rfl (hb hby d4_46) rfl (flt hc46).2.2.2 (by decide) (by decide) k) ?_
          exact gt3_61a hw c0 c1 c2 a0 Bd hml hZ hown hS T5 X5 e5 hk C0 SZ0 NF0 KP0 W_a0 J0
    · skip
      refine opW T5 (mkF m 61 #[rv a0, iv 0, iv c0, uu] []) (fun _ k => XS.icmpYes X5.here hx rfl (pc0 := 34) (pc' := 61) rfl (hb hby d4_34) rfl (flt hc34).2.2.2 (by decide) (by decide) k) ?_
      exact gt3_61a hw c0 c1 c2 a0 Bd hml hZ hown hS T5 X5 e5 hk C0 SZ0 NF0 KP0 W_a0 J0
theorem ef_t3 (m : MethodId) (a0 : Addr) : entryFrame m #[(.ref a0)] 4 = mkF m 0 #[rv a0, uu, uu, uu] [] := by first | (simp [entryFrame, mkF, argsToLocals, Value.category]; done) | rfl
set_option maxRecDepth 65536 in
set_option maxHeartbeats 40000000 in
theorem rmt3 (l : Launch) (Z : State) (aw : Array Value) (hw : HW aw Z) (ws : List Jvm.Cond) (c0 c1 c2 : Int32) (a0 : Addr) (h0 : Heap) (n0 : Nat) (SZ0 : n0 ≤ h0.size) (W_a0 : own_S3 Z h0 n0 a0 c0 c1 c2) (J0 : own_J Z h0) :
    MetFree l y28 (head1 (Jvm.Cond.code y28 Gd 4 (some .boolean) :: ws) Qt3) (fun a U => a = #[(.ref a0)] ∧ Z.Warmed39 U.vm ∧ U.heap = h0 ∧ CHv Z consts_1 U.vm h0) (fun _ _ _ _ _ => True) (fun _ U o U' => ∃ v L, o = .returned v ∧ own_Q (Rt3 (ft3_0 c0 c1 c2)) (Kt3 Z c0 c1 c2 a0 h0 n0 (ft3_0 c0 c1 c2)) v U'.heap L ∧ ReturnedEndW U o U' L Qt3.cells Qt3.slots) := by
  refine MetFree.of_bodySF (plainFor_of_name own_pn5) hisR ?_
  intro p e s m args below meth c s₁ Bd hml0 hP hK
  obtain ⟨rfl, hZ, hh, HC⟩ := hP
  have hown := findClass_of_methodNamed Bd.named
  have hS : s.Since s.vm 0 := (State.WarmedH.refl s).since 0
  have hml : c.maxLocals = 4 := hml0
  have e0 : s₁.heap = h0 := by rw [← hh, Bd.state]; rfl
  exact own_preW (fun t k => castTop (ef_t3 m a0) k) (gt3_0 hw c0 c1 c2 a0 Bd hml hZ hown hS s₁ (Stand.of_body Bd) e0 (Nat.zero_le _) HC SZ0 (Fr.nil n0) (Keep.refl _ _) W_a0 J0)
theorem own_pd19 : parseMethodDescriptor "([C)V" = some ⟨[(.array .char)], none⟩ := by decide +kernel
theorem own_pd20 : parseMethodDescriptor "(Ljava/lang/String;)Z" = some ⟨[(.object cS)], some .boolean⟩ := by decide +kernel
theorem own_pd21 : parseMethodDescriptor "(C)Z" = some ⟨[.char], some .boolean⟩ := by decide +kernel
abbrev y29 : MethodName := ⟨cL, "tchar", "(C)Z"⟩
/-! body 0, 0 -/
def R0 (t : Int32) : Option Value := some (.int t)
def K0 (Z : State) (p0 p1 p2 p3 : Int32)  (h0 : Heap) (n0 : Nat) (t : Int32) (h : Heap) (L : List Loc) : Prop := Fr n0 L
def f0_201a (p0 p1 p2 p3 y0 s_x9_0 s_x9_1 s_x9_2 : Int32) : Int32 := (if (ft3_0 s_x9_0 s_x9_1 s_x9_2) = y0 then (1 : Int32) else (0 : Int32))
set_option maxRecDepth 65536 in
set_option maxHeartbeats 40000000 in
theorem g0_201a (hw : HW aw Z) {h0 : Heap} {n0 : Nat} (p0 p1 p2 p3 x4 x5 x6 x7 : Int32) (x8 x9 : Addr) (y0 s_x9_0 s_x9_1 s_x9_2 : Int32)
    (Bd : BodyLoose p l x (head1 (Jvm.Cond.code x code maxLocals ret :: ws) room_1) code maxLocals ret e s m #[(.int p0), (.int p1), (.int p2), (.int p3)] below meth c s₁) (hml : c.maxLocals = 11) {vm0 : Vm} {k0 : Nat} (hZ : Z.Warmed39 vm0) (hown : vm0.findClass cL = some m.cls) (hS : s.Since vm0 k0) (T0 : State) {locs : List Loc} (X0 : Stand p l e room_1 (s.setVm vm0) m #[(.int p0), (.int p1), (.int p2), (.int p3)] below meth c T0 locs 4 16) {h : Heap} (e0 : T0.heap = h) (hk : k0 ≤ h0.size) (C0 : CHv Z consts_1 vm0 h0) (SZ0 : n0 ≤ h.size) (NF0 : Fr n0 locs) (KP0 : Keep h0 h []) (W_x9 : own_S3 Z h n0 x9 s_x9_0 s_x9_1 s_x9_2) (J0 : own_J Z h) (g_x9 : n0 ≤ x9) :
    own_GoW p e below s room_1.cells room_1.slots (R0 (f0_201a p0 p1 p2 p3 y0 s_x9_0 s_x9_1 s_x9_2)) (K0 Z p0 p1 p2 p3  h0 n0 (f0_201a p0 p1 p2 p3 y0 s_x9_0 s_x9_1 s_x9_2)) (T0.setTop (mkF m 201 #[iv p0, iv p1, iv p2, iv p3, iv x4, iv x5, iv x6, iv x7, rv x8, rv x9, uu] [(.int y0)])) := by
  have hx := Bd.exec
  have hby := Bd.bytes
  have hnm := (name_of_methodNamed Bd.named Bd.method).1
  unfold f0_201a
  refine opW T0 (mkF m 205 #[iv p0, iv p1, iv p2, iv p3, iv x4, iv x5, iv x6, iv x7, rv x8, rv x9, iv y0] [(.ref x9)]) (fun _ k => XS.istore X0.here hx rfl (hb hby at_201) rfl (l' := #[iv p0, iv p1, iv p2, iv p3, iv x4, iv x5, iv x6, iv x7, rv x8, rv x9, iv y0]) rfl (XS.aload X0.here hx rfl (hb hby at_203) rfl rfl k)) ?_
  obtain ⟨_, _, ⟨T1, L1, k1, n1⟩, -, X1, hSq1, hgr1, ⟨Lc1, hQ1, l1, y1, z1⟩, st'⟩ := callSS X0 hx (y := y28) hown (mvT hZ (ow hw 23 rfl)) (mvT hZ (ow hw 24 rfl)) (mvT hZ (ow hw 25 rfl)) (mvT hZ (ow hw 26 rfl)) (by decide) (own_backS (W := 0) (rmt3 l Z aw hw [] s_x9_0 s_x9_1 s_x9_2 x9 h n0 SZ0 W_x9 J0) hZ (ow hw 26 rfl) (ow hw 25 rfl) (by decide) (by decide) (own_EW hw) (CHv.keep KP0 sf0 C0)) (g := (mkF m 205 #[iv p0, iv p1, iv p2, iv p3, iv x4, iv x5, iv x6, iv x7, rv x8, rv x9, iv y0] [(.ref x9)])) rfl (by rw [hml]; rfl) (argsL := [(.ref x9)]) (rest := []) (lenOf own_pd20 rfl) rfl (by show 2 * 0 + _ ≤ _; exact Nat.le_of_eq rfl) (hb hby at_205) (fun _ _ => ⟨rfl, e0, (by decide : 4 + 6 ≤ _), (by decide : 16 + 192 ≤ _)⟩)
  dsimp only [Pt.U, Pt.locs, Pt.cells, Pt.slots] at X1 hSq1 hgr1 l1 y1 z1 st' hQ1
  subst l1 y1 z1
  obtain ⟨rfl, NFq1, KPq1⟩ := hQ1
  have hS := hS.trans hSq1 (Nat.le_trans (Nat.le_trans hk KP0.1) (by rw [← e0]; exact hgr1))
  have hk := Nat.le_refl T1.heap.size
  have hZ : Z.Warmed39 T1.vm := State.Warmed39.trans (t := s.setVm _) hZ hSq1.1
  have hown : T1.vm.findClass cL = some m.cls := by rw [hSq1.1.alike.findClass]; exact hown
  have X1 : Stand p l e room_1 (s.setVm T1.vm) m #[(.int p0), (.int p1), (.int p2), (.int p3)] below meth c T1 _ 10 208 := X1
  have NF1 := Fr.app NF0 NFq1
  have SZ1 : n0 ≤ T1.heap.size := Nat.le_trans SZ0 KPq1.1
  have KP1 : Keep h0 T1.heap [] := KP0.trans KPq1 all0
  refine opW T1 (mkF m 210 #[iv p0, iv p1, iv p2, iv p3, iv x4, iv x5, iv x6, iv x7, rv x8, rv x9, iv y0] [(.int y0), (.int (ft3_0 s_x9_0 s_x9_1 s_x9_2))]) (fun _ k => st'.trans (XS.iload X1.here hx rfl (hb hby at_208) rfl k)) ?_
  refine own_iteTW R0 (K0 Z p0 p1 p2 p3  h0 n0) (fun hc210 => ?_) (fun hc210 => ?_)
  · skip
    refine opW T1 (mkF m 218 #[iv p0, iv p1, iv p2, iv p3, iv x4, iv x5, iv x6, iv x7, rv x8, rv x9, iv y0] [(.int 1)]) (fun _ k => XS.icmpNo X1.here hx rfl (hb hby at_210) rfl (teq hc210).2 (XS.iconst X1.here hx rfl (hb hby at_213) (XS.goto X1.here hx rfl (pc0 := 214) (pc' := 218) rfl (hb hby at_214) (by decide) (by decide) k))) ?_
    exact own_retW hS hk (w := (.int 1)) X1 hx Bd.notSynchronized Bd.returns rfl (Or.inl ⟨rfl, by simp, _, rfl⟩) (hb hby at_218) NF1 (by decide) (by decide)
  · skip
    refine opW T1 (mkF m 218 #[iv p0, iv p1, iv p2, iv p3, iv x4, iv x5, iv x6, iv x7, rv x8, rv x9, iv y0] [(.int 0)]) (fun _ k => XS.icmpYes X1.here hx rfl (pc0 := 210) (pc' := 217) rfl (hb hby at_210) rfl (feq hc210).2 (by decide) (by decide) (XS.iconst X1.here hx rfl (hb hby at_217) k)) ?_
    exact own_retW hS hk (w := (.int 0)) X1 hx Bd.notSynchronized Bd.returns rfl (Or.inl ⟨rfl, by simp, _, rfl⟩) (hb hby at_218) NF1 (by decide) (by decide)
def f0_167a (p0 p1 p2 p3 y0 s_x9_0 s_x9_1 : Int32) : Int32 := (if (ft2_0 s_x9_0 s_x9_1) = y0 then (1 : Int32) else (0 : Int32))
set_option maxRecDepth 65536 in
set_option maxHeartbeats 40000000 in
theorem g0_167a (hw : HW aw Z) {h0 : Heap} {n0 : Nat} (p0 p1 p2 p3 x4 x5 x6 x7 : Int32) (x8 x9 : Addr) (y0 s_x9_0 s_x9_1 : Int32)
    (Bd : BodyLoose p l x (head1 (Jvm.Cond.code x code maxLocals ret :: ws) room_1) code maxLocals ret e s m #[(.int p0), (.int p1), (.int p2), (.int p3)] below meth c s₁) (hml : c.maxLocals = 11) {vm0 : Vm} {k0 : Nat} (hZ : Z.Warmed39 vm0) (hown : vm0.findClass cL = some m.cls) (hS : s.Since vm0 k0) (T0 : State) {locs : List Loc} (X0 : Stand p l e room_1 (s.setVm vm0) m #[(.int p0), (.int p1), (.int p2), (.int p3)] below meth c T0 locs 4 12) {h : Heap} (e0 : T0.heap = h) (hk : k0 ≤ h0.size) (C0 : CHv Z consts_1 vm0 h0) (SZ0 : n0 ≤ h.size) (NF0 : Fr n0 locs) (KP0 : Keep h0 h []) (W_x9 : own_S2 Z h n0 x9 s_x9_0 s_x9_1) (J0 : own_J Z h) (g_x9 : n0 ≤ x9) :
    own_GoW p e below s room_1.cells room_1.slots (R0 (f0_167a p0 p1 p2 p3 y0 s_x9_0 s_x9_1)) (K0 Z p0 p1 p2 p3  h0 n0 (f0_167a p0 p1 p2 p3 y0 s_x9_0 s_x9_1)) (T0.setTop (mkF m 167 #[iv p0, iv p1, iv p2, iv p3, iv x4, iv x5, iv x6, iv x7, rv x8, rv x9, uu] [(.int y0)])) := by
  have hx := Bd.exec
  have hby := Bd.bytes
  have hnm := (name_of_methodNamed Bd.named Bd.method).1
  unfold f0_167a
  refine opW T0 (mkF m 205 #[iv p0, iv p1, iv p2, iv p3, iv x4, iv x5, iv x6, iv x7, rv x8, rv x9, iv y0] [(.ref x9)]) (fun _ k => XS.istore X0.here hx rfl (hb hby at_167) rfl (l' := #[iv p0, iv p1, iv p2, iv p3, iv x4, iv x5, iv x6, iv x7, rv x8, rv x9, iv y0]) rfl (XS.goto X0.here hx rfl (pc0 := 169) (pc' := 203) rfl (hb hby at_169) (by decide) (by decide) (XS.aload X0.here hx rfl (hb hby at_203) rfl rfl k))) ?_
  obtain ⟨_, _, ⟨T1, L1, k1, n1⟩, -, X1, hSq1, hgr1, ⟨Lc1, hQ1, l1, y1, z1⟩, st'⟩ := callSS X0 hx (y := y28) hown (mvT hZ (ow hw 23 rfl)) (mvT hZ (ow hw 24 rfl)) (mvT hZ (ow hw 25 rfl)) (mvT hZ (ow hw 26 rfl)) (by decide) (own_backS (W := 0) (rmt2 l Z aw hw [] s_x9_0 s_x9_1 x9 h n0 SZ0 W_x9 J0) hZ (ow hw 26 rfl) (ow hw 25 rfl) (by decide) (by decide) (own_EW hw) (CHv.keep KP0 sf0 C0)) (g := (mkF m 205 #[iv p0, iv p1, iv p2, iv p3, iv x4, iv x5, iv x6, iv x7, rv x8, rv x9, iv y0] [(.ref x9)])) rfl (by rw [hml]; rfl) (argsL := [(.ref x9)]) (rest := []) (lenOf own_pd20 rfl) rfl (by show 2 * 0 + _ ≤ _; exact Nat.le_of_eq rfl) (hb hby at_205) (fun _ _ => ⟨rfl, e0, (by decide : 4 + 4 ≤ _), (by decide : 12 + 128 ≤ _)⟩)
  dsimp only [Pt.U, Pt.locs, Pt.cells, Pt.slots] at X1 hSq1 hgr1 l1 y1 z1 st' hQ1
  subst l1 y1 z1
  obtain ⟨rfl, NFq1, KPq1⟩ := hQ1
  have hS := hS.trans hSq1 (Nat.le_trans (Nat.le_trans hk KP0.1) (by rw [← e0]; exact hgr1))
  have hk := Nat.le_refl T1.heap.size
  have hZ : Z.Warmed39 T1.vm := State.Warmed39.trans (t := s.setVm _) hZ hSq1.1
  have hown : T1.vm.findClass cL = some m.cls := by rw [hSq1.1.alike.findClass]; exact hown
  have X1 : Stand p l e room_1 (s.setVm T1.vm) m #[(.int p0), (.int p1), (.int p2), (.int p3)] below meth c T1 _ 8 140 := X1
  have NF1 := Fr.app NF0 NFq1
  have SZ1 : n0 ≤ T1.heap.size := Nat.le_trans SZ0 KPq1.1
  have KP1 : Keep h0 T1.heap [] := KP0.trans KPq1 all0
  refine opW T1 (mkF m 210 #[iv p0, iv p1, iv p2, iv p3, iv x4, iv x5, iv x6, iv x7, rv x8, rv x9, iv y0] [(.int y0), (.int (ft2_0 s_x9_0 s_x9_1))]) (fun _ k => st'.trans (XS.iload X1.here hx rfl (hb hby at_208) rfl k)) ?_
  refine own_iteTW R0 (K0 Z p0 p1 p2 p3  h0 n0) (fun hc210 => ?_) (fun hc210 => ?_)
  · skip
    refine opW T1 (mkF m 218 #[iv p0, iv p1, iv p2, iv p3, iv x4, iv x5, iv x6, iv x7, rv x8, rv x9, iv y0] [(.int 1)]) (fun _ k => XS.icmpNo X1.here hx rfl (hb hby at_210) rfl (teq hc210).2 (XS.iconst X1.here hx rfl (hb hby at_213) (XS.goto X1.here hx rfl (pc0 := 214) (pc' := 218) rfl (hb hby at_214) (by decide) (by decide) k))) ?_
    exact own_retW hS hk (w := (.int 1)) X1 hx Bd.notSynchronized Bd.returns rfl (Or.inl ⟨rfl, by simp, _, rfl⟩) (hb hby at_218) NF1 (by decide) (by decide)
  · skip
    refine opW T1 (mkF m 218 #[iv p0, iv p1, iv p2, iv p3, iv x4, iv x5, iv x6, iv x7, rv x8, rv x9, iv y0] [(.int 0)]) (fun _ k => XS.icmpYes X1.here hx rfl (pc0 := 210) (pc' := 217) rfl (hb hby at_210) rfl (feq hc210).2 (by decide) (by decide) (XS.iconst X1.here hx rfl (hb hby at_217) k)) ?_
    exact own_retW hS hk (w := (.int 0)) X1 hx Bd.notSynchronized Bd.returns rfl (Or.inl ⟨rfl, by simp, _, rfl⟩) (hb hby at_218) NF1 (by decide) (by decide)
def f0_0 (p0 p1 p2 p3 : Int32) : Int32 := (if (p0 &&& (3 : Int32)) = (0 : Int32) then (if ft0_0 = (0 : Int32) then (1 : Int32) else (0 : Int32)) else (if (p0 &&& (3 : Int32)) = (1 : Int32) then (if (ft1_0 (nar .char ((p1 &&& (65535 : Int32)).toUInt32.toUInt16.toUInt32.toInt32))) = (f9_0 ((p1 &&& (65535 : Int32)).toUInt32.toUInt16.toUInt32.toInt32)) then (1 : Int32) else (0 : Int32)) else (if (p0 &&& (3 : Int32)) = (2 : Int32) then (if (f9_0 ((p1 &&& (65535 : Int32)).toUInt32.toUInt16.toUInt32.toInt32)) = (0 : Int32) then (f0_167a p0 p1 p2 p3 (0 : Int32) (nar .char ((p1 &&& (65535 : Int32)).toUInt32.toUInt16.toUInt32.toInt32)) (nar .char ((p2 &&& (65535 : Int32)).toUInt32.toUInt16.toUInt32.toInt32))) else (if (f9_0 ((p2 &&& (65535 : Int32)).toUInt32.toUInt16.toUInt32.toInt32)) = (0 : Int32) then (f0_167a p0 p1 p2 p3 (0 : Int32) (nar .char ((p1 &&& (65535 : Int32)).toUInt32.toUInt16.toUInt32.toInt32)) (nar .char ((p2 &&& (65535 : Int32)).toUInt32.toUInt16.toUInt32.toInt32))) else (f0_167a p0 p1 p2 p3 (1 : Int32) (nar .char ((p1 &&& (65535 : Int32)).toUInt32.toUInt16.toUInt32.toInt32)) (nar .char ((p2 &&& (65535 : Int32)).toUInt32.toUInt16.toUInt32.toInt32))))) else (if (f9_0 ((p1 &&& (65535 : Int32)).toUInt32.toUInt16.toUInt32.toInt32)) = (0 : Int32) then (f0_201a p0 p1 p2 p3 (0 : Int32) (nar .char ((p1 &&& (65535 : Int32)).toUInt32.toUInt16.toUInt32.toInt32)) (nar .char ((p2 &&& (65535 : Int32)).toUInt32.toUInt16.toUInt32.toInt32)) (nar .char ((p3 &&& (65535 : Int32)).toUInt32.toUInt16.toUInt32.toInt32))) else (if (f9_0 ((p2 &&& (65535 : Int32)).toUInt32.toUInt16.toUInt32.toInt32)) = (0 : Int32) then (f0_201a p0 p1 p2 p3 (0 : Int32) (nar .char ((p1 &&& (65535 : Int32)).toUInt32.toUInt16.toUInt32.toInt32)) (nar .char ((p2 &&& (65535 : Int32)).toUInt32.toUInt16.toUInt32.toInt32)) (nar .char ((p3 &&& (65535 : Int32)).toUInt32.toUInt16.toUInt32.toInt32))) else (if (f9_0 ((p3 &&& (65535 : Int32)).toUInt32.toUInt16.toUInt32.toInt32)) = (0 : Int32) then (f0_201a p0 p1 p2 p3 (0 : Int32) (nar .char ((p1 &&& (65535 : Int32)).toUInt32.toUInt16.toUInt32.toInt32)) (nar .char ((p2 &&& (65535 : Int32)).toUInt32.toUInt16.toUInt32.toInt32)) (nar .char ((p3 &&& (65535 : Int32)).toUInt32.toUInt16.toUInt32.toInt32))) else (f0_201a p0 p1 p2 p3 (1 : Int32) (nar .char ((p1 &&& (65535 : Int32)).toUInt32.toUInt16.toUInt32.toInt32)) (nar .char ((p2 &&& (65535 : Int32)).toUInt32.toUInt16.toUInt32.toInt32)) (nar .char ((p3 &&& (65535 : Int32)).toUInt32.toUInt16.toUInt32.toInt32)))))))))
set_option maxRecDepth 65536 in
set_option maxHeartbeats 40000000 in
theorem g0_0 (hw : HW aw Z) {h0 : Heap} {n0 : Nat} (p0 p1 p2 p3 : Int32) 
    (Bd : BodyLoose p l x (head1 (Jvm.Cond.code x code maxLocals ret :: ws) room_1) code maxLocals ret e s m #[(.int p0), (.int p1), (.int p2), (.int p3)] below meth c s₁) (hml : c.maxLocals = 11) {vm0 : Vm} {k0 : Nat} (hZ : Z.Warmed39 vm0) (hown : vm0.findClass cL = some m.cls) (hS : s.Since vm0 k0) (T0 : State) {locs : List Loc} (X0 : Stand p l e room_1 (s.setVm vm0) m #[(.int p0), (.int p1), (.int p2), (.int p3)] below meth c T0 locs 0 0) (e0 : T0.heap = h0) (hk : k0 ≤ h0.size) (C0 : CHv Z consts_1 vm0 h0) (SZ0 : n0 ≤ h0.size) (NF0 : Fr n0 locs) (KP0 : Keep h0 h0 []) (J0 : own_J Z h0) :
    own_GoW p e below s room_1.cells room_1.slots (R0 (f0_0 p0 p1 p2 p3)) (K0 Z p0 p1 p2 p3  h0 n0 (f0_0 p0 p1 p2 p3)) (T0.setTop (mkF m 0 #[iv p0, iv p1, iv p2, iv p3, uu, uu, uu, uu, uu, uu, uu] [])) := by
  have hx := Bd.exec
  have hby := Bd.bytes
  have hnm := (name_of_methodNamed Bd.named Bd.method).1
  unfold f0_0
  refine opW T0 (mkF m 6 #[iv p0, iv p1, iv p2, iv p3, iv (p0 &&& (3 : Int32)), uu, uu, uu, uu, uu, uu] [(.int p1)]) (fun _ k => XS.iloadN X0.here hx rfl (hb hby at_0) rfl (XS.iconst X0.here hx rfl (hb hby at_1) (XS.iand X0.here hx rfl (hb hby at_2) rfl (XS.istore X0.here hx rfl (hb hby at_3) rfl (l' := #[iv p0, iv p1, iv p2, iv p3, iv (p0 &&& (3 : Int32)), uu, uu, uu, uu, uu, uu]) rfl (XS.iloadN X0.here hx rfl (hb hby at_5) rfl k))))) ?_
  refine opW T0 (mkF m 8 #[iv p0, iv p1, iv p2, iv p3, iv (p0 &&& (3 : Int32)), uu, uu, uu, uu, uu, uu] [(.int 65535), (.int p1)]) (fun _ k => X0.ldcInt hx hown (mvT hZ (ow hw 0 rfl)) (g := (mkF m 6 #[iv p0, iv p1, iv p2, iv p3, iv (p0 &&& (3 : Int32)), uu, uu, uu, uu, uu, uu] [(.int p1)])) rfl (hb hby at_6) _ k) ?_
  refine opW T0 (mkF m 13 #[iv p0, iv p1, iv p2, iv p3, iv (p0 &&& (3 : Int32)), iv ((p1 &&& (65535 : Int32)).toUInt32.toUInt16.toUInt32.toInt32), uu, uu, uu, uu, uu] [(.int p2)]) (fun _ k => XS.iand X0.here hx rfl (hb hby at_8) rfl (XS.i2c X0.here hx rfl (hb hby at_9) rfl (XS.istore X0.here hx rfl (hb hby at_10) rfl (l' := #[iv p0, iv p1, iv p2, iv p3, iv (p0 &&& (3 : Int32)), iv ((p1 &&& (65535 : Int32)).toUInt32.toUInt16.toUInt32.toInt32), uu, uu, uu, uu, uu]) rfl (XS.iloadN X0.here hx rfl (hb hby at_12) rfl k)))) ?_
  refine opW T0 (mkF m 15 #[iv p0, iv p1, iv p2, iv p3, iv (p0 &&& (3 : Int32)), iv ((p1 &&& (65535 : Int32)).toUInt32.toUInt16.toUInt32.toInt32), uu, uu, uu, uu, uu] [(.int 65535), (.int p2)]) (fun _ k => X0.ldcInt hx hown (mvT hZ (ow hw 0 rfl)) (g := (mkF m 13 #[iv p0, iv p1, iv p2, iv p3, iv (p0 &&& (3 : Int32)), iv ((p1 &&& (65535 : Int32)).toUInt32.toUInt16.toUInt32.toInt32), uu, uu, uu, uu, uu] [(.int p2)])) rfl (hb hby at_13) _ k) ?_
  refine opW T0 (mkF m 20 #[iv p0, iv p1, iv p2, iv p3, iv (p0 &&& (3 : Int32)), iv ((p1 &&& (65535 : Int32)).toUInt32.toUInt16.toUInt32.toInt32), iv ((p2 &&& (65535 : Int32)).toUInt32.toUInt16.toUInt32.toInt32), uu, uu, uu, uu] [(.int p3)]) (fun _ k => XS.iand X0.here hx rfl (hb hby at_15) rfl (XS.i2c X0.here hx rfl (hb hby at_16) rfl (XS.istore X0.here hx rfl (hb hby at_17) rfl (l' := #[iv p0, iv p1, iv p2, iv p3, iv (p0 &&& (3 : Int32)), iv ((p1 &&& (65535 : Int32)).toUInt32.toUInt16.toUInt32.toInt32), iv ((p2 &&& (65535 : Int32)).toUInt32.toUInt16.toUInt32.toInt32), uu, uu, uu, uu]) rfl (XS.iloadN X0.here hx rfl (hb hby at_19) rfl k)))) ?_
  refine opW T0 (mkF m 22 #[iv p0, iv p1, iv p2, iv p3, iv (p0 &&& (3 : Int32)), iv ((p1 &&& (65535 : Int32)).toUInt32.toUInt16.toUInt32.toInt32), iv ((p2 &&& (65535 : Int32)).toUInt32.toUInt16.toUInt32.toInt32), uu, uu, uu, uu] [(.int 65535), (.int p3)]) (fun _ k => X0.ldcInt hx hown (mvT hZ (ow hw 0 rfl)) (g := (mkF m 20 #[iv p0, iv p1, iv p2, iv p3, iv (p0 &&& (3 : Int32)), iv ((p1 &&& (65535 : Int32)).toUInt32.toUInt16.toUInt32.toInt32), iv ((p2 &&& (65535 : Int32)).toUInt32.toUInt16.toUInt32.toInt32), uu, uu, uu, uu] [(.int p3)])) rfl (hb hby at_20) _ k) ?_
  refine opW T0 (mkF m 28 #[iv p0, iv p1, iv p2, iv p3, iv (p0 &&& (3 : Int32)), iv ((p1 &&& (65535 : Int32)).toUInt32.toUInt16.toUInt32.toInt32), iv ((p2 &&& (65535 : Int32)).toUInt32.toUInt16.toUInt32.toInt32), iv ((p3 &&& (65535 : Int32)).toUInt32.toUInt16.toUInt32.toInt32), uu, uu, uu] [(.int (p0 &&& (3 : Int32)))]) (fun _ k => XS.iand X0.here hx rfl (hb hby at_22) rfl (XS.i2c X0.here hx rfl (hb hby at_23) rfl (XS.istore X0.here hx rfl (hb hby at_24) rfl (l' := #[iv p0, iv p1, iv p2, iv p3, iv (p0 &&& (3 : Int32)), iv ((p1 &&& (65535 : Int32)).toUInt32.toUInt16.toUInt32.toInt32), iv ((p2 &&& (65535 : Int32)).toUInt32.toUInt16.toUInt32.toInt32), iv ((p3 &&& (65535 : Int32)).toUInt32.toUInt16.toUInt32.toInt32), uu, uu, uu]) rfl (XS.iload X0.here hx rfl (hb hby at_26) rfl k)))) ?_
  refine own_iteTW R0 (K0 Z p0 p1 p2 p3  h0 n0) (fun hc28 => ?_) (fun hc28 => ?_)
  · skip
    refine opW T0 (mkF m 32 #[iv p0, iv p1, iv p2, iv p3, iv (p0 &&& (3 : Int32)), iv ((p1 &&& (65535 : Int32)).toUInt32.toUInt16.toUInt32.toInt32), iv ((p2 &&& (65535 : Int32)).toUInt32.toUInt16.toUInt32.toInt32), iv ((p3 &&& (65535 : Int32)).toUInt32.toUInt16.toUInt32.toInt32), uu, uu, uu] [(.int 0)]) (fun _ k => XS.ifNo X0.here hx rfl (hb hby at_28) rfl ((if0 _ _).trans (teq hc28).2) (XS.iconst X0.here hx rfl (hb hby at_31) k)) ?_
    obtain ⟨T1, h1, k1, X1, e1, E1, A1, st'⟩ := newP X0 hx hZ (ow hw 1 rfl) e0 (g := (mkF m 32 #[iv p0, iv p1, iv p2, iv p3, iv (p0 &&& (3 : Int32)), iv ((p1 &&& (65535 : Int32)).toUInt32.toUInt16.toUInt32.toInt32), iv ((p2 &&& (65535 : Int32)).toUInt32.toUInt16.toUInt32.toInt32), iv ((p3 &&& (65535 : Int32)).toUInt32.toUInt16.toUInt32.toInt32), uu, uu, uu] [(.int 0)])) rfl (hb hby at_32) rfl (by decide) (cap := 0) (by decide) (by decide) (by decide) (by decide)
    obtain ⟨b1, g1⟩ : ∃ z, z = h0.size := ⟨_, rfl⟩
    rw [← g1] at A1 st'
    have Gu : n0 ≤ b1 := Nat.le_trans SZ0 (Nat.le_of_eq g1.symm)
    have Gr : h0.size ≤ b1 := Nat.le_trans KP0.1 (Nat.le_of_eq g1.symm)
    have KP1 := KP0.ext E1
    have SZ1 : n0 ≤ h1.size := Nat.le_trans SZ0 E1.1
    have f2 := own_J.ext J0 E1
    have f3 : own_Pv Z h1 b1 (0 : Int32) [] .char := ⟨_, (Arv.new A1 (by decide)).pad (pad_rep [] (.int 0) 0)⟩
    refine opW T1 (mkF m 102 #[iv p0, iv p1, iv p2, iv p3, iv (p0 &&& (3 : Int32)), iv ((p1 &&& (65535 : Int32)).toUInt32.toUInt16.toUInt32.toInt32), iv ((p2 &&& (65535 : Int32)).toUInt32.toUInt16.toUInt32.toInt32), iv ((p3 &&& (65535 : Int32)).toUInt32.toUInt16.toUInt32.toInt32), rv b1, uu, uu] []) (fun _ k => st' _ (XS.astore X1.here hx rfl (hb hby at_34) rfl rfl (l' := #[iv p0, iv p1, iv p2, iv p3, iv (p0 &&& (3 : Int32)), iv ((p1 &&& (65535 : Int32)).toUInt32.toUInt16.toUInt32.toInt32), iv ((p2 &&& (65535 : Int32)).toUInt32.toUInt16.toUInt32.toInt32), iv ((p3 &&& (65535 : Int32)).toUInt32.toUInt16.toUInt32.toInt32), rv b1, uu, uu]) rfl (XS.goto X1.here hx rfl (pc0 := 36) (pc' := 102) rfl (hb hby at_36) (by decide) (by decide) k))) ?_
    obtain ⟨T4, h4, X4, e4, E4, A4, D4, -, st'⟩ := newO X1 hx hZ hown (ow hw 2 rfl) (ow hw 3 rfl) (ow hw 4 rfl) e1 (g := (mkF m 102 #[iv p0, iv p1, iv p2, iv p3, iv (p0 &&& (3 : Int32)), iv ((p1 &&& (65535 : Int32)).toUInt32.toUInt16.toUInt32.toInt32), iv ((p2 &&& (65535 : Int32)).toUInt32.toUInt16.toUInt32.toInt32), iv ((p3 &&& (65535 : Int32)).toUInt32.toUInt16.toUInt32.toInt32), rv b1, uu, uu] [])) rfl (hb hby at_102) (by decide) (by decide)
    obtain ⟨b4, g4⟩ : ∃ z, z = h1.size := ⟨_, rfl⟩
    rw [← g4] at A4 D4 st'
    have g_b4 : n0 ≤ b4 := Nat.le_trans SZ1 (Nat.le_of_eq g4.symm)
    have ne_b1_b4 : b1 ≠ b4 := Nat.ne_of_lt (Nat.lt_of_lt_of_le f3.lt (Nat.le_of_eq g4.symm))
    have sz_b4 : h0.size ≤ b4 := Nat.le_trans KP1.1 (Nat.le_of_eq g4.symm)
    have KP4 := KP1.ext E4
    have SZ4 : n0 ≤ h4.size := Nat.le_trans SZ1 E4.1
    have f5 := f3.ext E4
    have f6 := own_J.ext f2 E4
    have f7 : Fld Z h4 b4 cS "value" "[B" .null := D4 (Or.inr (ow hw 17 rfl)) (ty := (.array .byte)) (by decide)
    have f8 : Fld Z h4 b4 cS "coder" "B" (.int 0) := D4 (Or.inr (ow hw 18 rfl)) (ty := .byte) (by decide)
    refine opW T4 (mkF m 108 #[iv p0, iv p1, iv p2, iv p3, iv (p0 &&& (3 : Int32)), iv ((p1 &&& (65535 : Int32)).toUInt32.toUInt16.toUInt32.toInt32), iv ((p2 &&& (65535 : Int32)).toUInt32.toUInt16.toUInt32.toInt32), iv ((p3 &&& (65535 : Int32)).toUInt32.toUInt16.toUInt32.toInt32), rv b1, uu, uu] [(.ref b1), (.ref b4), (.ref b4)]) (fun _ k => st' _ (XS.dup X4.here hx rfl (hb hby at_105) rfl rfl (XS.aload X4.here hx rfl (hb hby at_106) rfl rfl k))) ?_
    obtain ⟨_, _, ⟨T9, L9, k9, n9⟩, -, X9, hSq9, hgr9, ⟨Lc9, hQ9, l9, y9, z9⟩, st'⟩ := X4.specialBackS hx (y := y27) rfl hown (mvT hZ (ow hw 5 rfl)) (mvT hZ (ow hw 6 rfl)) (mvT hZ (ow hw 7 rfl)) (by decide) (own_backS (W := 1) (rms0 l Z aw hw []  b4 b1 h4 n0 SZ4 A4 f7 f8 f5 f6 g_b4) hZ (ow hw 7 rfl) (ow hw 4 rfl) (by decide) (by decide) (own_EW hw) (CHv.keep KP4 sf0 C0)) (g := (mkF m 108 #[iv p0, iv p1, iv p2, iv p3, iv (p0 &&& (3 : Int32)), iv ((p1 &&& (65535 : Int32)).toUInt32.toUInt16.toUInt32.toInt32), iv ((p2 &&& (65535 : Int32)).toUInt32.toUInt16.toUInt32.toInt32), iv ((p3 &&& (65535 : Int32)).toUInt32.toUInt16.toUInt32.toInt32), rv b1, uu, uu] [(.ref b1), (.ref b4), (.ref b4)])) rfl (by rw [hml]; rfl) (Steps.refl _) (a := b4) (argsL := [(.ref b1)]) (rest := [(.ref b4)]) (lenOf own_pd19 rfl) rfl (by show 2 * 0 + _ ≤ _; exact Nat.le_of_eq rfl) (hb hby at_108) (fun _ _ => ⟨rfl, e4, (by decide : 2 + 2 ≤ _), (by decide : 4 + 4 ≤ _)⟩)
    dsimp only [Pt.U, Pt.locs, Pt.cells, Pt.slots] at X9 hSq9 hgr9 l9 y9 z9 st' hQ9
    subst l9 y9 z9
    obtain ⟨rfl, NFq9, KPq9, p9_0, p9_1⟩ := hQ9
    have hS := hS.trans hSq9 (Nat.le_trans (Nat.le_trans hk KP4.1) (by rw [← e4]; exact hgr9))
    have hk := Nat.le_refl T9.heap.size
    have hZ : Z.Warmed39 T9.vm := State.Warmed39.trans (t := s.setVm _) hZ hSq9.1
    have hown : T9.vm.findClass cL = some m.cls := by rw [hSq9.1.alike.findClass]; exact hown
    have X9 : Stand p l e room_1 (s.setVm T9.vm) m #[(.int p0), (.int p1), (.int p2), (.int p3)] below meth c T9 _ 4 8 := X9
    have NF9 := Fr.app NF0 NFq9
    have SZ9 : n0 ≤ T9.heap.size := Nat.le_trans SZ4 KPq9.1
    have KP9 : Keep h0 T9.heap [] := KP4.trans KPq9 (allS (Or.inr sz_b4) all0)
    refine opW T9 (mkF m 115 #[iv p0, iv p1, iv p2, iv p3, iv (p0 &&& (3 : Int32)), iv ((p1 &&& (65535 : Int32)).toUInt32.toUInt16.toUInt32.toInt32), iv ((p2 &&& (65535 : Int32)).toUInt32.toUInt16.toUInt32.toInt32), iv ((p3 &&& (65535 : Int32)).toUInt32.toUInt16.toUInt32.toInt32), rv b1, rv b4, uu] [(.int (p0 &&& (3 : Int32)))]) (fun _ k => st'.trans (XS.astore X9.here hx rfl (hb hby at_111) rfl rfl (l' := #[iv p0, iv p1, iv p2, iv p3, iv (p0 &&& (3 : Int32)), iv ((p1 &&& (65535 : Int32)).toUInt32.toUInt16.toUInt32.toInt32), iv ((p2 &&& (65535 : Int32)).toUInt32.toUInt16.toUInt32.toInt32), iv ((p3 &&& (65535 : Int32)).toUInt32.toUInt16.toUInt32.toInt32), rv b1, rv b4, uu]) rfl (XS.iload X9.here hx rfl (hb hby at_113) rfl k))) ?_
    have hc115 : (p0 &&& (3 : Int32)) = (0 : Int32) := hc28
    refine opW T9 (mkF m 205 #[iv p0, iv p1, iv p2, iv p3, iv (p0 &&& (3 : Int32)), iv ((p1 &&& (65535 : Int32)).toUInt32.toUInt16.toUInt32.toInt32), iv ((p2 &&& (65535 : Int32)).toUInt32.toUInt16.toUInt32.toInt32), iv ((p3 &&& (65535 : Int32)).toUInt32.toUInt16.toUInt32.toInt32), rv b1, rv b4, iv 0] [(.ref b4)]) (fun _ k => XS.ifNo X9.here hx rfl (hb hby at_115) rfl ((if0 _ _).trans (teq hc115).2) (XS.iconst X9.here hx rfl (hb hby at_118) (XS.istore X9.here hx rfl (hb hby at_119) rfl (l' := #[iv p0, iv p1, iv p2, iv p3, iv (p0 &&& (3 : Int32)), iv ((p1 &&& (65535 : Int32)).toUInt32.toUInt16.toUInt32.toInt32), iv ((p2 &&& (65535 : Int32)).toUInt32.toUInt16.toUInt32.toInt32), iv ((p3 &&& (65535 : Int32)).toUInt32.toUInt16.toUInt32.toInt32), rv b1, rv b4, iv 0]) rfl (XS.goto X9.here hx rfl (pc0 := 121) (pc' := 203) rfl (hb hby at_121) (by decide) (by decide) (XS.aload X9.here hx rfl (hb hby at_203) rfl rfl k))))) ?_
    obtain ⟨_, _, ⟨T10, L10, k10, n10⟩, -, X10', ⟨Lc10, hQ10, l10, y10, z10⟩, st'⟩ := Jvm.LawKit.callS X9 hx (y := y28) hown (mvT hZ (ow hw 23 rfl)) (mvT hZ (ow hw 24 rfl)) (mvT hZ (ow hw 25 rfl)) (mvT hZ (ow hw 26 rfl)) (by decide) (backOf (W := 0) (rmt0 l Z aw hw []  b4 T9.heap n0 SZ9 p9_0) hZ (ow hw 26 rfl) (ow hw 25 rfl) (by decide) (by decide)) (g := (mkF m 205 #[iv p0, iv p1, iv p2, iv p3, iv (p0 &&& (3 : Int32)), iv ((p1 &&& (65535 : Int32)).toUInt32.toUInt16.toUInt32.toInt32), iv ((p2 &&& (65535 : Int32)).toUInt32.toUInt16.toUInt32.toInt32), iv ((p3 &&& (65535 : Int32)).toUInt32.toUInt16.toUInt32.toInt32), rv b1, rv b4, iv 0] [(.ref b4)])) rfl (by rw [hml]; rfl) (argsL := [(.ref b4)]) (rest := []) (lenOf own_pd20 rfl) rfl (by show 2 * 0 + _ ≤ _; exact Nat.le_of_eq rfl) (hb hby at_205) (fun _ _ => ⟨rfl, (rfl : T9.heap = T9.heap), (by decide : 4 + 0 ≤ _), (by decide : 8 + 0 ≤ _)⟩)
    dsimp only [Pt.U, Pt.locs, Pt.cells, Pt.slots] at X10' l10 y10 z10 st' hQ10
    subst l10 y10 z10
    obtain ⟨rfl, rfl, e10⟩ := hQ10
    have X10 : Stand p l e room_1 _ m #[(.int p0), (.int p1), (.int p2), (.int p3)] below meth c T10 _ 4 8 := own_locs X10'
    refine opW T10 (mkF m 210 #[iv p0, iv p1, iv p2, iv p3, iv (p0 &&& (3 : Int32)), iv ((p1 &&& (65535 : Int32)).toUInt32.toUInt16.toUInt32.toInt32), iv ((p2 &&& (65535 : Int32)).toUInt32.toUInt16.toUInt32.toInt32), iv ((p3 &&& (65535 : Int32)).toUInt32.toUInt16.toUInt32.toInt32), rv b1, rv b4, iv 0] [(.int 0), (.int ft0_0)]) (fun _ k => st' _ (XS.iload X10.here hx rfl (hb hby at_208) rfl k)) ?_
    refine own_iteTW R0 (K0 Z p0 p1 p2 p3  h0 n0) (fun hc210 => ?_) (fun hc210 => ?_)
    · skip
      refine opW T10 (mkF m 218 #[iv p0, iv p1, iv p2, iv p3, iv (p0 &&& (3 : Int32)), iv ((p1 &&& (65535 : Int32)).toUInt32.toUInt16.toUInt32.toInt32), iv ((p2 &&& (65535 : Int32)).toUInt32.toUInt16.toUInt32.toInt32), iv ((p3 &&& (65535 : Int32)).toUInt32.toUInt16.toUInt32.toInt32), rv b1, rv b4, iv 0] [(.int 1)]) (fun _ k => XS.icmpNo X10.here hx rfl (hb hby at_210) rfl (teq hc210).2 (XS.iconst X10.here hx rfl (hb hby at_213) (XS.goto X10.here hx rfl (pc0 := 214) (pc' := 218) rfl (hb hby at_214) (by decide) (by decide) k))) ?_
      exact own_retW hS (by rw [e10]; exact hk) (w := (.int 1)) X10 hx Bd.notSynchronized Bd.returns rfl (Or.inl ⟨rfl, by simp, _, rfl⟩) (hb hby at_218) (by rw [e10]; exact NF9) (by decide) (by decide)
    · skip
      refine opW T10 (mkF m 218 #[iv p0, iv p1, iv p2, iv p3, iv (p0 &&& (3 : Int32)), iv ((p1 &&& (65535 : Int32)).toUInt32.toUInt16.toUInt32.toInt32), iv ((p2 &&& (65535 : Int32)).toUInt32.toUInt16.toUInt32.toInt32), iv ((p3 &&& (65535 : Int32)).toUInt32.toUInt16.toUInt32.toInt32), rv b1, rv b4, iv 0] [(.int 0)]) (fun _ k => XS.icmpYes X10.here hx rfl (pc0 := 210) (pc' := 217) rfl (hb hby at_210) rfl (feq hc210).2 (by decide) (by decide) (XS.iconst X10.here hx rfl (hb hby at_217) k)) ?_
      exact own_retW hS (by rw [e10]; exact hk) (w := (.int 0)) X10 hx Bd.notSynchronized Bd.returns rfl (Or.inl ⟨rfl, by simp, _, rfl⟩) (hb hby at_218) (by rw [e10]; exact NF9) (by decide) (by decide)
  · skip
    refine opW T0 (mkF m 42 #[iv p0, iv p1, iv p2, iv p3, iv (p0 &&& (3 : Int32)), iv ((p1 &&& (65535 : Int32)).toUInt32.toUInt16.toUInt32.toInt32), iv ((p2 &&& (65535 : Int32)).toUInt32.toUInt16.toUInt32.toInt32), iv ((p3 &&& (65535 : Int32)).toUInt32.toUInt16.toUInt32.toInt32), uu, uu, uu] [(.int 1), (.int (p0 &&& (3 : Int32)))]) (fun _ k => XS.ifYes X0.here hx rfl (pc0 := 28) (pc' := 39) rfl (hb hby at_28) rfl ((if0 _ _).trans (feq hc28).2) (by decide) (by decide) (XS.iload X0.here hx rfl (hb hby at_39) rfl (XS.iconst X0.here hx rfl (hb hby at_41) k))) ?_
    refine own_iteTW R0 (K0 Z p0 p1 p2 p3  h0 n0) (fun hc42 => ?_) (fun hc42 => ?_)
    · skip
      refine opW T0 (mkF m 46 #[iv p0, iv p1, iv p2, iv p3, iv (p0 &&& (3 : Int32)), iv ((p1 &&& (65535 : Int32)).toUInt32.toUInt16.toUInt32.toInt32), iv ((p2 &&& (65535 : Int32)).toUInt32.toUInt16.toUInt32.toInt32), iv ((p3 &&& (65535 : Int32)).toUInt32.toUInt16.toUInt32.toInt32), uu, uu, uu] [(.int 1)]) (fun _ k => XS.icmpNo X0.here hx rfl (hb hby at_42) rfl (teq hc42).2 (XS.iconst X0.here hx rfl (hb hby at_45) k)) ?_
      obtain ⟨T11, h11, k11, X11, e11, E11, A11, st'⟩ := newP X0 hx hZ (ow hw 1 rfl) e0 (g := (mkF m 46 #[iv p0, iv p1, iv p2, iv p3, iv (p0 &&& (3 : Int32)), iv ((p1 &&& (65535 : Int32)).toUInt32.toUInt16.toUInt32.toInt32), iv ((p2 &&& (65535 : Int32)).toUInt32.toUInt16.toUInt32.toInt32), iv ((p3 &&& (65535 : Int32)).toUInt32.toUInt16.toUInt32.toInt32), uu, uu, uu] [(.int 1)])) rfl (hb hby at_46) rfl (by decide) (cap := 1) (by decide) (by decide) (by decide) (by decide)
      obtain ⟨b11, g11⟩ : ∃ z, z = h0.size := ⟨_, rfl⟩
      rw [← g11] at A11 st'
      have g_b11 : n0 ≤ b11 := Nat.le_trans SZ0 (Nat.le_of_eq g11.symm)
      have sz_b11 : h0.size ≤ b11 := Nat.le_trans KP0.1 (Nat.le_of_eq g11.symm)
      have KP11 := KP0.ext E11
      have SZ11 : n0 ≤ h11.size := Nat.le_trans SZ0 E11.1
      have f12 := own_J.ext J0 E11
      have f13 : own_Pv Z h11 b11 (1 : Int32) [(0 : Int32)] .char := ⟨_, (Arv.new A11 (by decide)).pad (pad_rep [] (.int 0) 1)⟩
      refine opW T11 (mkF m 52 #[iv p0, iv p1, iv p2, iv p3, iv (p0 &&& (3 : Int32)), iv ((p1 &&& (65535 : Int32)).toUInt32.toUInt16.toUInt32.toInt32), iv ((p2 &&& (65535 : Int32)).toUInt32.toUInt16.toUInt32.toInt32), iv ((p3 &&& (65535 : Int32)).toUInt32.toUInt16.toUInt32.toInt32), uu, uu, uu] [(.int ((p1 &&& (65535 : Int32)).toUInt32.toUInt16.toUInt32.toInt32)), (.int 0), (.ref b11), (.ref b11)]) (fun _ k => st' _ (XS.dup X11.here hx rfl (hb hby at_48) rfl rfl (XS.iconst X11.here hx rfl (hb hby at_49) (XS.iload X11.here hx rfl (hb hby at_50) rfl k)))) ?_
      obtain ⟨k14, cl14, Ar14, q14, S14, N14, H14, G14⟩ := id f13
      have hin14 : ¬ ((0 : Int32) < 0 ∨ cl14.slots.size ≤ ((0 : Int32)).toNatClampNeg) := inb_of S14 ⟨by decide, by decide⟩
      obtain ⟨T14, h14, X14, e14, W14, st'⟩ := stC X11 hx hZ e11 Ar14 (j := (0 : Int32)) hin14 (g := (mkF m 52 #[iv p0, iv p1, iv p2, iv p3, iv (p0 &&& (3 : Int32)), iv ((p1 &&& (65535 : Int32)).toUInt32.toUInt16.toUInt32.toInt32), iv ((p2 &&& (65535 : Int32)).toUInt32.toUInt16.toUInt32.toInt32), iv ((p3 &&& (65535 : Int32)).toUInt32.toUInt16.toUInt32.toInt32), uu, uu, uu] [(.int ((p1 &&& (65535 : Int32)).toUInt32.toUInt16.toUInt32.toInt32)), (.int 0), (.ref b11), (.ref b11)])) rfl rfl (hb hby at_52)
      have f15 : own_Pv Z h14 b11 (1 : Int32) [(nar .char ((p1 &&& (65535 : Int32)).toUInt32.toUInt16.toUInt32.toInt32))] .char := ⟨_, Arv.set Ar14 q14 S14 N14 H14 G14 (fits_nar_char _) W14 0 rfl (Nat.le_of_ble_eq_true rfl)⟩
      have f16 := own_J.wr f12 W14
      have NF14 := Fr.snoc X14 NF0 g_b11
      have SZ14 : n0 ≤ h14.size := (Nat.le_trans SZ11 (Keep.of_wr W14).1)
      have KP14 : Keep h0 h14 [] := KP11.wr W14 (Or.inr sz_b11)
      refine opW T14 (mkF m 102 #[iv p0, iv p1, iv p2, iv p3, iv (p0 &&& (3 : Int32)), iv ((p1 &&& (65535 : Int32)).toUInt32.toUInt16.toUInt32.toInt32), iv ((p2 &&& (65535 : Int32)).toUInt32.toUInt16.toUInt32.toInt32), iv ((p3 &&& (65535 : Int32)).toUInt32.toUInt16.toUInt32.toInt32), rv b11, uu, uu] []) (fun _ k => st' _ (XS.astore X14.here hx rfl (hb hby at_53) rfl rfl (l' := #[iv p0, iv p1, iv p2, iv p3, iv (p0 &&& (3 : Int32)), iv ((p1 &&& (65535 : Int32)).toUInt32.toUInt16.toUInt32.toInt32), iv ((p2 &&& (65535 : Int32)).toUInt32.toUInt16.toUInt32.toInt32), iv ((p3 &&& (65535 : Int32)).toUInt32.toUInt16.toUInt32.toInt32), rv b11, uu, uu]) rfl (XS.goto X14.here hx rfl (pc0 := 55) (pc' := 102) rfl (hb hby at_55) (by decide) (by decide) k))) ?_
      obtain ⟨T17, h17, X17, e17, E17, A17, D17, -, st'⟩ := newO X14 hx hZ hown (ow hw 2 rfl) (ow hw 3 rfl) (ow hw 4 rfl) e14 (g := (mkF m 102 #[iv p0, iv p1, iv p2, iv p3, iv (p0 &&& (3 : Int32)), iv ((p1 &&& (65535 : Int32)).toUInt32.toUInt16.toUInt32.toInt32), iv ((p2 &&& (65535 : Int32)).toUInt32.toUInt16.toUInt32.toInt32), iv ((p3 &&& (65535 : Int32)).toUInt32.toUInt16.toUInt32.toInt32), rv b11, uu, uu] [])) rfl (hb hby at_102) (by decide) (by decide)
      obtain ⟨b17, g17⟩ : ∃ z, z = h14.size := ⟨_, rfl⟩
      rw [← g17] at A17 D17 st'
      have g_b17 : n0 ≤ b17 := Nat.le_trans SZ14 (Nat.le_of_eq g17.symm)
      have ne_b11_b17 : b11 ≠ b17 := Nat.ne_of_lt (Nat.lt_of_lt_of_le f15.lt (Nat.le_of_eq g17.symm))
      have sz_b17 : h0.size ≤ b17 := Nat.le_trans KP14.1 (Nat.le_of_eq g17.symm)
      have KP17 := KP14.ext E17
      have SZ17 : n0 ≤ h17.size := Nat.le_trans SZ14 E17.1
      have f18 := f15.ext E17
      have f19 := own_J.ext f16 E17
      have f20 : Fld Z h17 b17 cS "value" "[B" .null := D17 (Or.inr (ow hw 17 rfl)) (ty := (.array .byte)) (by decide)
      have f21 : Fld Z h17 b17 cS "coder" "B" (.int 0) := D17 (Or.inr (ow hw 18 rfl)) (ty := .byte) (by decide)
      refine opW T17 (mkF m 108 #[iv p0, iv p1, iv p2, iv p3, iv (p0 &&& (3 : Int32)), iv ((p1 &&& (65535 : Int32)).toUInt32.toUInt16.toUInt32.toInt32), iv ((p2 &&& (65535 : Int32)).toUInt32.toUInt16.toUInt32.toInt32), iv ((p3 &&& (65535 : Int32)).toUInt32.toUInt16.toUInt32.toInt32), rv b11, uu, uu] [(.ref b11), (.ref b17), (.ref b17)]) (fun _ k => st' _ (XS.dup X17.here hx rfl (hb hby at_105) rfl rfl (XS.aload X17.here hx rfl (hb hby at_106) rfl rfl k))) ?_
      obtain ⟨_, _, ⟨T22, L22, k22, n22⟩, -, X22', ⟨Lc22, hQ22, l22, y22, z22⟩, st'⟩ := X17.specialBack hx (y := y27) rfl hown (mvT hZ (ow hw 5 rfl)) (mvT hZ (ow hw 6 rfl)) (mvT hZ (ow hw 7 rfl)) (by decide) (backOf (W := 1) (rmsn1 l Z aw hw [] (nar .char ((p1 &&& (65535 : Int32)).toUInt32.toUInt16.toUInt32.toInt32)) b17 b11 h17 n0 SZ17 A17 f20 f21 f18 f19 (Ne.symm ne_b11_b17) (own_ch_nar _) g_b17) hZ (ow hw 7 rfl) (ow hw 4 rfl) (by decide) (by decide)) (g := (mkF m 108 #[iv p0, iv p1, iv p2, iv p3, iv (p0 &&& (3 : Int32)), iv ((p1 &&& (65535 : Int32)).toUInt32.toUInt16.toUInt32.toInt32), iv ((p2 &&& (65535 : Int32)).toUInt32.toUInt16.toUInt32.toInt32), iv ((p3 &&& (65535 : Int32)).toUInt32.toUInt16.toUInt32.toInt32), rv b11, uu, uu] [(.ref b11), (.ref b17), (.ref b17)])) rfl (by rw [hml]; rfl) (Steps.refl _) (a := b17) (argsL := [(.ref b11)]) (rest := [(.ref b17)]) (lenOf own_pd19 rfl) rfl (by show 2 * 0 + _ ≤ _; exact Nat.le_of_eq rfl) (hb hby at_108) (fun _ _ => ⟨rfl, e17, (by decide : 2 + 2 ≤ _), (by decide : 5 + 3 ≤ _)⟩)
      dsimp only [Pt.U, Pt.locs, Pt.cells, Pt.slots] at X22' l22 y22 z22 st' hQ22
      subst l22 y22 z22
      obtain ⟨rfl, NFq22, KPq22, p22_0, p22_1⟩ := hQ22
      have X22 : Stand p l e room_1 _ m #[(.int p0), (.int p1), (.int p2), (.int p3)] below meth c T22 _ 4 8 := X22'
      have NF22 := Fr.app NF14 NFq22
      have SZ22 : n0 ≤ T22.heap.size := Nat.le_trans SZ17 KPq22.1
      have KP22 : Keep h0 T22.heap [] := KP17.trans KPq22 (allS (Or.inr sz_b17) all0)
      have f23 := f18.keep KPq22 (ninS ne_b11_b17 nin0)
      have f24 := A17.keep KPq22
      refine opW T22 (mkF m 115 #[iv p0, iv p1, iv p2, iv p3, iv (p0 &&& (3 : Int32)), iv ((p1 &&& (65535 : Int32)).toUInt32.toUInt16.toUInt32.toInt32), iv ((p2 &&& (65535 : Int32)).toUInt32.toUInt16.toUInt32.toInt32), iv ((p3 &&& (65535 : Int32)).toUInt32.toUInt16.toUInt32.toInt32), rv b11, rv b17, uu] [(.int (p0 &&& (3 : Int32)))]) (fun _ k => st'.trans (XS.astore X22.here hx rfl (hb hby at_111) rfl rfl (l' := #[iv p0, iv p1, iv p2, iv p3, iv (p0 &&& (3 : Int32)), iv ((p1 &&& (65535 : Int32)).toUInt32.toUInt16.toUInt32.toInt32), iv ((p2 &&& (65535 : Int32)).toUInt32.toUInt16.toUInt32.toInt32), iv ((p3 &&& (65535 : Int32)).toUInt32.toUInt16.toUInt32.toInt32), rv b11, rv b17, uu]) rfl (XS.iload X22.here hx rfl (hb hby at_113) rfl k))) ?_
      have hc115 : ¬ ((p0 &&& (3 : Int32)) = (0 : Int32)) := hc28
      refine opW T22 (mkF m 127 #[iv p0, iv p1, iv p2, iv p3, iv (p0 &&& (3 : Int32)), iv ((p1 &&& (65535 : Int32)).toUInt32.toUInt16.toUInt32.toInt32), iv ((p2 &&& (65535 : Int32)).toUInt32.toUInt16.toUInt32.toInt32), iv ((p3 &&& (65535 : Int32)).toUInt32.toUInt16.toUInt32.toInt32), rv b11, rv b17, uu] [(.int 1), (.int (p0 &&& (3 : Int32)))]) (fun _ k => XS.ifYes X22.here hx rfl (pc0 := 115) (pc' := 124) rfl (hb hby at_115) rfl ((if0 _ _).trans (feq hc115).2) (by decide) (by decide) (XS.iload X22.here hx rfl (hb hby at_124) rfl (XS.iconst X22.here hx rfl (hb hby at_126) k))) ?_
      have hc127 : (p0 &&& (3 : Int32)) = (1 : Int32) := hc42
      refine opW T22 (mkF m 132 #[iv p0, iv p1, iv p2, iv p3, iv (p0 &&& (3 : Int32)), iv ((p1 &&& (65535 : Int32)).toUInt32.toUInt16.toUInt32.toInt32), iv ((p2 &&& (65535 : Int32)).toUInt32.toUInt16.toUInt32.toInt32), iv ((p3 &&& (65535 : Int32)).toUInt32.toUInt16.toUInt32.toInt32), rv b11, rv b17, uu] [(.int ((p1 &&& (65535 : Int32)).toUInt32.toUInt16.toUInt32.toInt32))]) (fun _ k => XS.icmpNo X22.here hx rfl (hb hby at_127) rfl (teq hc127).2 (XS.iload X22.here hx rfl (hb hby at_130) rfl k)) ?_
      obtain ⟨_, _, ⟨T25, L25, k25, n25⟩, -, X25', ⟨Lc25, hQ25, l25, y25, z25⟩, st'⟩ := Jvm.LawKit.callS X22 hx (y := y29) hown (mvT hZ (ow hw 43 rfl)) (mvT hZ (ow hw 44 rfl)) (mvT hZ (ow hw 45 rfl)) (mvT hZ (ow hw 46 rfl)) (by decide) (backOf (W := 0) (rm9 l Z aw hw [] ((p1 &&& (65535 : Int32)).toUInt32.toUInt16.toUInt32.toInt32) T22.heap) hZ (ow hw 46 rfl) (ow hw 45 rfl) (by decide) (by decide)) (g := (mkF m 132 #[iv p0, iv p1, iv p2, iv p3, iv (p0 &&& (3 : Int32)), iv ((p1 &&& (65535 : Int32)).toUInt32.toUInt16.toUInt32.toInt32), iv ((p2 &&& (65535 : Int32)).toUInt32.toUInt16.toUInt32.toInt32), iv ((p3 &&& (65535 : Int32)).toUInt32.toUInt16.toUInt32.toInt32), rv b11, rv b17, uu] [(.int ((p1 &&& (65535 : Int32)).toUInt32.toUInt16.toUInt32.toInt32))])) rfl (by rw [hml]; rfl) (argsL := [(.int ((p1 &&& (65535 : Int32)).toUInt32.toUInt16.toUInt32.toInt32))]) (rest := []) (lenOf own_pd21 rfl) rfl (by show 2 * 0 + _ ≤ _; exact Nat.le_of_eq rfl) (hb hby at_132) (fun _ _ => ⟨rfl, (rfl : T22.heap = T22.heap), (by decide : 4 + 0 ≤ _), (by decide : 8 + 0 ≤ _)⟩)
      dsimp only [Pt.U, Pt.locs, Pt.cells, Pt.slots] at X25' l25 y25 z25 st' hQ25
      subst l25 y25 z25
      obtain ⟨rfl, rfl, e25⟩ := hQ25
      have X25 : Stand p l e room_1 _ m #[(.int p0), (.int p1), (.int p2), (.int p3)] below meth c T25 _ 4 8 := own_locs X25'
      refine opW T25 (mkF m 205 #[iv p0, iv p1, iv p2, iv p3, iv (p0 &&& (3 : Int32)), iv ((p1 &&& (65535 : Int32)).toUInt32.toUInt16.toUInt32.toInt32), iv ((p2 &&& (65535 : Int32)).toUInt32.toUInt16.toUInt32.toInt32), iv ((p3 &&& (65535 : Int32)).toUInt32.toUInt16.toUInt32.toInt32), rv b11, rv b17, iv (f9_0 ((p1 &&& (65535 : Int32)).toUInt32.toUInt16.toUInt32.toInt32))] [(.ref b17)]) (fun _ k => st' _ (XS.istore X25.here hx rfl (hb hby at_135) rfl (l' := #[iv p0, iv p1, iv p2, iv p3, iv (p0 &&& (3 : Int32)), iv ((p1 &&& (65535 : Int32)).toUInt32.toUInt16.toUInt32.toInt32), iv ((p2 &&& (65535 : Int32)).toUInt32.toUInt16.toUInt32.toInt32), iv ((p3 &&& (65535 : Int32)).toUInt32.toUInt16.toUInt32.toInt32), rv b11, rv b17, iv (f9_0 ((p1 &&& (65535 : Int32)).toUInt32.toUInt16.toUInt32.toInt32))]) rfl (XS.goto X25.here hx rfl (pc0 := 137) (pc' := 203) rfl (hb hby at_137) (by decide) (by decide) (XS.aload X25.here hx rfl (hb hby at_203) rfl rfl k)))) ?_
      obtain ⟨_, _, ⟨T26, L26, k26, n26⟩, -, X26, hSq26, hgr26, ⟨Lc26, hQ26, l26, y26, z26⟩, st'⟩ := callSS X25 hx (y := y28) hown (mvT hZ (ow hw 23 rfl)) (mvT hZ (ow hw 24 rfl)) (mvT hZ (ow hw 25 rfl)) (mvT hZ (ow hw 26 rfl)) (by decide) (own_backS (W := 0) (rmt1 l Z aw hw [] (nar .char ((p1 &&& (65535 : Int32)).toUInt32.toUInt16.toUInt32.toInt32)) b17 T22.heap n0 SZ22 p22_0 p22_1) hZ (ow hw 26 rfl) (ow hw 25 rfl) (by decide) (by decide) (own_EW hw) (CHv.keep KP22 sf0 C0)) (g := (mkF m 205 #[iv p0, iv p1, iv p2, iv p3, iv (p0 &&& (3 : Int32)), iv ((p1 &&& (65535 : Int32)).toUInt32.toUInt16.toUInt32.toInt32), iv ((p2 &&& (65535 : Int32)).toUInt32.toUInt16.toUInt32.toInt32), iv ((p3 &&& (65535 : Int32)).toUInt32.toUInt16.toUInt32.toInt32), rv b11, rv b17, iv (f9_0 ((p1 &&& (65535 : Int32)).toUInt32.toUInt16.toUInt32.toInt32))] [(.ref b17)])) rfl (by rw [hml]; rfl) (argsL := [(.ref b17)]) (rest := []) (lenOf own_pd20 rfl) rfl (by show 2 * 0 + _ ≤ _; exact Nat.le_of_eq rfl) (hb hby at_205) (fun _ _ => ⟨rfl, e25, (by decide : 4 + 2 ≤ _), (by decide : 8 + 64 ≤ _)⟩)
      dsimp only [Pt.U, Pt.locs, Pt.cells, Pt.slots] at X26 hSq26 hgr26 l26 y26 z26 st' hQ26
      subst l26 y26 z26
      obtain ⟨rfl, NFq26, KPq26⟩ := hQ26
      have hS := hS.trans hSq26 (Nat.le_trans (Nat.le_trans hk KP22.1) (by rw [← e25]; exact hgr26))
      have hk := Nat.le_refl T26.heap.size
      have hZ : Z.Warmed39 T26.vm := State.Warmed39.trans (t := s.setVm _) hZ hSq26.1
      have hown : T26.vm.findClass cL = some m.cls := by rw [hSq26.1.alike.findClass]; exact hown
      have X26 : Stand p l e room_1 (s.setVm T26.vm) m #[(.int p0), (.int p1), (.int p2), (.int p3)] below meth c T26 _ 6 72 := X26
      have NF26 := Fr.app NF22 NFq26
      have SZ26 : n0 ≤ T26.heap.size := Nat.le_trans SZ22 KPq26.1
      have KP26 : Keep h0 T26.heap [] := KP22.trans KPq26 all0
      refine opW T26 (mkF m 210 #[iv p0, iv p1, iv p2, iv p3, iv (p0 &&& (3 : Int32)), iv ((p1 &&& (65535 : Int32)).toUInt32.toUInt16.toUInt32.toInt32), iv ((p2 &&& (65535 : Int32)).toUInt32.toUInt16.toUInt32.toInt32), iv ((p3 &&& (65535 : Int32)).toUInt32.toUInt16.toUInt32.toInt32), rv b11, rv b17, iv (f9_0 ((p1 &&& (65535 : Int32)).toUInt32.toUInt16.toUInt32.toInt32))] [(.int (f9_0 ((p1 &&& (65535 : Int32)).toUInt32.toUInt16.toUInt32.toInt32))), (.int (ft1_0 (nar .char ((p1 &&& (65535 : Int32)).toUInt32.toUInt16.toUInt32.toInt32))))]) (fun _ k => st'.trans (XS.iload X26.here hx rfl (hb hby at_208) rfl k)) ?_
      refine own_iteTW R0 (K0 Z p0 p1 p2 p3  h0 n0) (fun hc210 => ?_) (fun hc210 => ?_)
      · skip
        refine opW T26 (mkF m 218 #[iv p0, iv p1, iv p2, iv p3, iv (p0 &&& (3 : Int32)), iv ((p1 &&& (65535 : Int32)).toUInt32.toUInt16.toUInt32.toInt32), iv ((p2 &&& (65535 : Int32)).toUInt32.toUInt16.toUInt32.toInt32), iv ((p3 &&& (65535 : Int32)).toUInt32.toUInt16.toUInt32.toInt32), rv b11, rv b17, iv (f9_0 ((p1 &&& (65535 : Int32)).toUInt32.toUInt16.toUInt32.toInt32))] [(.int 1)]) (fun _ k => XS.icmpNo X26.here hx rfl (hb hby at_210) rfl (teq hc210).2 (XS.iconst X26.here hx rfl (hb hby at_213) (XS.goto X26.here hx rfl (pc0 := 214) (pc' := 218) rfl (hb hby at_214) (by decide) (by decide) k))) ?_
        exact own_retW hS hk (w := (.int 1)) X26 hx Bd.notSynchronized Bd.returns rfl (Or.inl ⟨rfl, by simp, _, rfl⟩) (hb hby at_218) NF26 (by decide) (by decide)
      · skip
        refine opW T26 (mkF m 218 #[iv p0, iv p1, iv p2, iv p3, iv (p0 &&& (3 : Int32)), iv ((p1 &&& (65535 : Int32)).toUInt32.toUInt16.toUInt32.toInt32), iv ((p2 &&& (65535 : Int32)).toUInt32.toUInt16.toUInt32.toInt32), iv ((p3 &&& (65535 : Int32)).toUInt32.toUInt16.toUInt32.toInt32), rv b11, rv b17, iv (f9_0 ((p1 &&& (65535 : Int32)).toUInt32.toUInt16.toUInt32.toInt32))] [(.int 0)]) (fun _ k => XS.icmpYes X26.here hx rfl (pc0 := 210) (pc' := 217) rfl (hb hby at_210) rfl (feq hc210).2 (by decide) (by decide) (XS.iconst X26.here hx rfl (hb hby at_217) k)) ?_
        exact own_retW hS hk (w := (.int 0)) X26 hx Bd.notSynchronized Bd.returns rfl (Or.inl ⟨rfl, by simp, _, rfl⟩) (hb hby at_218) NF26 (by decide) (by decide)
    · skip
      refine opW T0 (mkF m 61 #[iv p0, iv p1, iv p2, iv p3, iv (p0 &&& (3 : Int32)), iv ((p1 &&& (65535 : Int32)).toUInt32.toUInt16.toUInt32.toInt32), iv ((p2 &&& (65535 : Int32)).toUInt32.toUInt16.toUInt32.toInt32), iv ((p3 &&& (65535 : Int32)).toUInt32.toUInt16.toUInt32.toInt32), uu, uu, uu] [(.int 2), (.int (p0 &&& (3 : Int32)))]) (fun _ k => XS.icmpYes X0.here hx rfl (pc0 := 42) (pc' := 58) rfl (hb hby at_42) rfl (feq hc42).2 (by decide) (by decide) (XS.iload X0.here hx rfl (hb hby at_58) rfl (XS.iconst X0.here hx rfl (hb hby at_60) k))) ?_
      refine own_iteTW R0 (K0 Z p0 p1 p2 p3  h0 n0) (fun hc61 => ?_) (fun hc61 => ?_)
      · skip
        refine opW T0 (mkF m 65 #[iv p0, iv p1, iv p2, iv p3, iv (p0 &&& (3 : Int32)), iv ((p1 &&& (65535 : Int32)).toUInt32.toUInt16.toUInt32.toInt32), iv ((p2 &&& (65535 : Int32)).toUInt32.toUInt16.toUInt32.toInt32), iv ((p3 &&& (65535 : Int32)).toUInt32.toUInt16.toUInt32.toInt32), uu, uu, uu] [(.int 2)]) (fun _ k => XS.icmpNo X0.here hx rfl (hb hby at_61) rfl (teq hc61).2 (XS.iconst X0.here hx rfl (hb hby at_64) k)) ?_
        obtain ⟨T27, h27, k27, X27, e27, E27, A27, st'⟩ := newP X0 hx hZ (ow hw 1 rfl) e0 (g := (mkF m 65 #[iv p0, iv p1, iv p2, iv p3, iv (p0 &&& (3 : Int32)), iv ((p1 &&& (65535 : Int32)).toUInt32.toUInt16.toUInt32.toInt32), iv ((p2 &&& (65535 : Int32)).toUInt32.toUInt16.toUInt32.toInt32), iv ((p3 &&& (65535 : Int32)).toUInt32.toUInt16.toUInt32.toInt32), uu, uu, uu] [(.int 2)])) rfl (hb hby at_65) rfl (by decide) (cap := 2) (by decide) (by decide) (by decide) (by decide)
        obtain ⟨b27, g27⟩ : ∃ z, z = h0.size := ⟨_, rfl⟩
        rw [← g27] at A27 st'
        have g_b27 : n0 ≤ b27 := Nat.le_trans SZ0 (Nat.le_of_eq g27.symm)
        have sz_b27 : h0.size ≤ b27 := Nat.le_trans KP0.1 (Nat.le_of_eq g27.symm)
        have KP27 := KP0.ext E27
        have SZ27 : n0 ≤ h27.size := Nat.le_trans SZ0 E27.1
        have f28 := own_J.ext J0 E27
        have f29 : own_Pv Z h27 b27 (2 : Int32) [(0 : Int32), (0 : Int32)] .char := ⟨_, (Arv.new A27 (by decide)).pad (pad_rep [] (.int 0) 2)⟩
        refine opW T27 (mkF m 71 #[iv p0, iv p1, iv p2, iv p3, iv (p0 &&& (3 : Int32)), iv ((p1 &&& (65535 : Int32)).toUInt32.toUInt16.toUInt32.toInt32), iv ((p2 &&& (65535 : Int32)).toUInt32.toUInt16.toUInt32.toInt32), iv ((p3 &&& (65535 : Int32)).toUInt32.toUInt16.toUInt32.toInt32), uu, uu, uu] [(.int ((p1 &&& (65535 : Int32)).toUInt32.toUInt16.toUInt32.toInt32)), (.int 0), (.ref b27), (.ref b27)]) (fun _ k => st' _ (XS.dup X27.here hx rfl (hb hby at_67) rfl rfl (XS.iconst X27.here hx rfl (hb hby at_68) (XS.iload X27.here hx rfl (hb hby at_69) rfl k)))) ?_
        obtain ⟨k30, cl30, Ar30, q30, S30, N30, H30, G30⟩ := id f29
        have hin30 : ¬ ((0 : Int32) < 0 ∨ cl30.slots.size ≤ ((0 : Int32)).toNatClampNeg) := inb_of S30 ⟨by decide, by decide⟩
        obtain ⟨T30, h30, X30, e30, W30, st'⟩ := stC X27 hx hZ e27 Ar30 (j := (0 : Int32)) hin30 (g := (mkF m 71 #[iv p0, iv p1, iv p2, iv p3, iv (p0 &&& (3 : Int32)), iv ((p1 &&& (65535 : Int32)).toUInt32.toUInt16.toUInt32.toInt32), iv ((p2 &&& (65535 : Int32)).toUInt32.toUInt16.toUInt32.toInt32), iv ((p3 &&& (65535 : Int32)).toUInt32.toUInt16.toUInt32.toInt32), uu, uu, uu] [(.int ((p1 &&& (65535 : Int32)).toUInt32.toUInt16.toUInt32.toInt32)), (.int 0), (.ref b27), (.ref b27)])) rfl rfl (hb hby at_71)
        have f31 : own_Pv Z h30 b27 (2 : Int32) [(nar .char ((p1 &&& (65535 : Int32)).toUInt32.toUInt16.toUInt32.toInt32)), (0 : Int32)] .char := ⟨_, Arv.set Ar30 q30 S30 N30 H30 G30 (fits_nar_char _) W30 0 rfl (Nat.le_of_ble_eq_true rfl)⟩
        have f32 := own_J.wr f28 W30
        have NF30 := Fr.snoc X30 NF0 g_b27
        have SZ30 : n0 ≤ h30.size := (Nat.le_trans SZ27 (Keep.of_wr W30).1)
        have KP30 : Keep h0 h30 [] := KP27.wr W30 (Or.inr sz_b27)
        refine opW T30 (mkF m 76 #[iv p0, iv p1, iv p2, iv p3, iv (p0 &&& (3 : Int32)), iv ((p1 &&& (65535 : Int32)).toUInt32.toUInt16.toUInt32.toInt32), iv ((p2 &&& (65535 : Int32)).toUInt32.toUInt16.toUInt32.toInt32), iv ((p3 &&& (65535 : Int32)).toUInt32.toUInt16.toUInt32.toInt32), uu, uu, uu] [(.int ((p2 &&& (65535 : Int32)).toUInt32.toUInt16.toUInt32.toInt32)), (.int 1), (.ref b27), (.ref b27)]) (fun _ k => st' _ (XS.dup X30.here hx rfl (hb hby at_72) rfl rfl (XS.iconst X30.here hx rfl (hb hby at_73) (XS.iload X30.here hx rfl (hb hby at_74) rfl k)))) ?_
        obtain ⟨k33, cl33, Ar33, q33, S33, N33, H33, G33⟩ := id f31
        have hin33 : ¬ ((1 : Int32) < 0 ∨ cl33.slots.size ≤ ((1 : Int32)).toNatClampNeg) := inb_of S33 ⟨by decide, by decide⟩
        obtain ⟨T33, h33, X33, e33, W33, st'⟩ := stC X30 hx hZ e30 Ar33 (j := (1 : Int32)) hin33 (g := (mkF m 76 #[iv p0, iv p1, iv p2, iv p3, iv (p0 &&& (3 : Int32)), iv ((p1 &&& (65535 : Int32)).toUInt32.toUInt16.toUInt32.toInt32), iv ((p2 &&& (65535 : Int32)).toUInt32.toUInt16.toUInt32.toInt32), iv ((p3 &&& (65535 : Int32)).toUInt32.toUInt16.toUInt32.toInt32), uu, uu, uu] [(.int ((p2 &&& (65535 : Int32)).toUInt32.toUInt16.toUInt32.toInt32)), (.int 1), (.ref b27), (.ref b27)])) rfl rfl (hb hby at_76)
        have f34 : own_Pv Z h33 b27 (2 : Int32) [(nar .char ((p1 &&& (65535 : Int32)).toUInt32.toUInt16.toUInt32.toInt32)), (nar .char ((p2 &&& (65535 : Int32)).toUInt32.toUInt16.toUInt32.toInt32))] .char := ⟨_, Arv.set Ar33 q33 S33 N33 H33 G33 (fits_nar_char _) W33 1 rfl (Nat.le_of_ble_eq_true rfl)⟩
        have f35 := own_J.wr f32 W33
        have NF33 := Fr.snoc X33 NF30 g_b27
        have SZ33 : n0 ≤ h33.size := (Nat.le_trans SZ30 (Keep.of_wr W33).1)
        have KP33 : Keep h0 h33 [] := KP30.wr W33 (Or.inr sz_b27)
        refine opW T33 (mkF m 102 #[iv p0, iv p1, iv p2, iv p3, iv (p0 &&& (3 : Int32)), iv ((p1 &&& (65535 : Int32)).toUInt32.toUInt16.toUInt32.toInt32), iv ((p2 &&& (65535 : Int32)).toUInt32.toUInt16.toUInt32.toInt32), iv ((p3 &&& (65535 : Int32)).toUInt32.toUInt16.toUInt32.toInt32), rv b27, uu, uu] []) (fun _ k => st' _ (XS.astore X33.here hx rfl (hb hby at_77) rfl rfl (l' := #[iv p0, iv p1, iv p2, iv p3, iv (p0 &&& (3 : Int32)), iv ((p1 &&& (65535 : Int32)).toUInt32.toUInt16.toUInt32.toInt32), iv ((p2 &&& (65535 : Int32)).toUInt32.toUInt16.toUInt32.toInt32), iv ((p3 &&& (65535 : Int32)).toUInt32.toUInt16.toUInt32.toInt32), rv b27, uu, uu]) rfl (XS.goto X33.here hx rfl (pc0 := 79) (pc' := 102) rfl (hb hby at_79) (by decide) (by decide) k))) ?_
        obtain ⟨T36, h36, X36, e36, E36, A36, D36, -, st'⟩ := newO X33 hx hZ hown (ow hw 2 rfl) (ow hw 3 rfl) (ow hw 4 rfl) e33 (g := (mkF m 102 #[iv p0, iv p1, iv p2, iv p3, iv (p0 &&& (3 : Int32)), iv ((p1 &&& (65535 : Int32)).toUInt32.toUInt16.toUInt32.toInt32), iv ((p2 &&& (65535 : Int32)).toUInt32.toUInt16.toUInt32.toInt32), iv ((p3 &&& (65535 : Int32)).toUInt32.toUInt16.toUInt32.toInt32), rv b27, uu, uu] [])) rfl (hb hby at_102) (by decide) (by decide)
        obtain ⟨b36, g36⟩ : ∃ z, z = h33.size := ⟨_, rfl⟩
        rw [← g36] at A36 D36 st'
        have g_b36 : n0 ≤ b36 := Nat.le_trans SZ33 (Nat.le_of_eq g36.symm)
        have ne_b27_b36 : b27 ≠ b36 := Nat.ne_of_lt (Nat.lt_of_lt_of_le f34.lt (Nat.le_of_eq g36.symm))
        have sz_b36 : h0.size ≤ b36 := Nat.le_trans KP33.1 (Nat.le_of_eq g36.symm)
        have KP36 := KP33.ext E36
        have SZ36 : n0 ≤ h36.size := Nat.le_trans SZ33 E36.1
        have f37 := f34.ext E36
        have f38 := own_J.ext f35 E36
        have f39 : Fld Z h36 b36 cS "value" "[B" .null := D36 (Or.inr (ow hw 17 rfl)) (ty := (.array .byte)) (by decide)
        have f40 : Fld Z h36 b36 cS "coder" "B" (.int 0) := D36 (Or.inr (ow hw 18 rfl)) (ty := .byte) (by decide)
        refine opW T36 (mkF m 108 #[iv p0, iv p1, iv p2, iv p3, iv (p0 &&& (3 : Int32)), iv ((p1 &&& (65535 : Int32)).toUInt32.toUInt16.toUInt32.toInt32), iv ((p2 &&& (65535 : Int32)).toUInt32.toUInt16.toUInt32.toInt32), iv ((p3 &&& (65535 : Int32)).toUInt32.toUInt16.toUInt32.toInt32), rv b27, uu, uu] [(.ref b27), (.ref b36), (.ref b36)]) (fun _ k => st' _ (XS.dup X36.here hx rfl (hb hby at_105) rfl rfl (XS.aload X36.here hx rfl (hb hby at_106) rfl rfl k))) ?_
        obtain ⟨_, _, ⟨T41, L41, k41, n41⟩, -, X41', ⟨Lc41, hQ41, l41, y41, z41⟩, st'⟩ := X36.specialBack hx (y := y27) rfl hown (mvT hZ (ow hw 5 rfl)) (mvT hZ (ow hw 6 rfl)) (mvT hZ (ow hw 7 rfl)) (by decide) (backOf (W := 1) (rmsn2 l Z aw hw [] (nar .char ((p1 &&& (65535 : Int32)).toUInt32.toUInt16.toUInt32.toInt32)) (nar .char ((p2 &&& (65535 : Int32)).toUInt32.toUInt16.toUInt32.toInt32)) b36 b27 h36 n0 SZ36 A36 f39 f40 f37 f38 (Ne.symm ne_b27_b36) ⟨own_ch_nar _, own_ch_nar _⟩ g_b36) hZ (ow hw 7 rfl) (ow hw 4 rfl) (by decide) (by decide)) (g := (mkF m 108 #[iv p0, iv p1, iv p2, iv p3, iv (p0 &&& (3 : Int32)), iv ((p1 &&& (65535 : Int32)).toUInt32.toUInt16.toUInt32.toInt32), iv ((p2 &&& (65535 : Int32)).toUInt32.toUInt16.toUInt32.toInt32), iv ((p3 &&& (65535 : Int32)).toUInt32.toUInt16.toUInt32.toInt32), rv b27, uu, uu] [(.ref b27), (.ref b36), (.ref b36)])) rfl (by rw [hml]; rfl) (Steps.refl _) (a := b36) (argsL := [(.ref b27)]) (rest := [(.ref b36)]) (lenOf own_pd19 rfl) rfl (by show 2 * 0 + _ ≤ _; exact Nat.le_of_eq rfl) (hb hby at_108) (fun _ _ => ⟨rfl, e36, (by decide : 2 + 2 ≤ _), (by decide : 6 + 6 ≤ _)⟩)
        dsimp only [Pt.U, Pt.locs, Pt.cells, Pt.slots] at X41' l41 y41 z41 st' hQ41
        subst l41 y41 z41
        obtain ⟨rfl, NFq41, KPq41, p41_0, p41_1⟩ := hQ41
        have X41 : Stand p l e room_1 _ m #[(.int p0), (.int p1), (.int p2), (.int p3)] below meth c T41 _ 4 12 := X41'
        have NF41 := Fr.app NF33 NFq41
        have SZ41 : n0 ≤ T41.heap.size := Nat.le_trans SZ36 KPq41.1
        have KP41 : Keep h0 T41.heap [] := KP36.trans KPq41 (allS (Or.inr sz_b36) all0)
        have f42 := f37.keep KPq41 (ninS ne_b27_b36 nin0)
        have f43 := A36.keep KPq41
        refine opW T41 (mkF m 115 #[iv p0, iv p1, iv p2, iv p3, iv (p0 &&& (3 : Int32)), iv ((p1 &&& (65535 : Int32)).toUInt32.toUInt16.toUInt32.toInt32), iv ((p2 &&& (65535 : Int32)).toUInt32.toUInt16.toUInt32.toInt32), iv ((p3 &&& (65535 : Int32)).toUInt32.toUInt16.toUInt32.toInt32), rv b27, rv b36, uu] [(.int (p0 &&& (3 : Int32)))]) (fun _ k => st'.trans (XS.astore X41.here hx rfl (hb hby at_111) rfl rfl (l' := #[iv p0, iv p1, iv p2, iv p3, iv (p0 &&& (3 : Int32)), iv ((p1 &&& (65535 : Int32)).toUInt32.toUInt16.toUInt32.toInt32), iv ((p2 &&& (65535 : Int32)).toUInt32.toUInt16.toUInt32.toInt32), iv ((p3 &&& (65535 : Int32)).toUInt32.toUInt16.toUInt32.toInt32), rv b27, rv b36, uu]) rfl (XS.iload X41.here hx rfl (hb hby at_113) rfl k))) ?_
        have hc115 : ¬ ((p0 &&& (3 : Int32)) = (0 : Int32)) := hc28
        refine opW T41 (mkF m 127 #[iv p0, iv p1, iv p2, iv p3, iv (p0 &&& (3 : Int32)), iv ((p1 &&& (65535 : Int32)).toUInt32.toUInt16.toUInt32.toInt32), iv ((p2 &&& (65535 : Int32)).toUInt32.toUInt16.toUInt32.toInt32), iv ((p3 &&& (65535 : Int32)).toUInt32.toUInt16.toUInt32.toInt32), rv b27, rv b36, uu] [(.int 1), (.int (p0 &&& (3 : Int32)))]) (fun _ k => XS.ifYes X41.here hx rfl (pc0 := 115) (pc' := 124) rfl (hb hby at_115) rfl ((if0 _ _).trans (feq hc115).2) (by decide) (by decide) (XS.iload X41.here hx rfl (hb hby at_124) rfl (XS.iconst X41.here hx rfl (hb hby at_126) k))) ?_
        have hc127 : ¬ ((p0 &&& (3 : Int32)) = (1 : Int32)) := hc42
        refine opW T41 (mkF m 143 #[iv p0, iv p1, iv p2, iv p3, iv (p0 &&& (3 : Int32)), iv ((p1 &&& (65535 : Int32)).toUInt32.toUInt16.toUInt32.toInt32), iv ((p2 &&& (65535 : Int32)).toUInt32.toUInt16.toUInt32.toInt32), iv ((p3 &&& (65535 : Int32)).toUInt32.toUInt16.toUInt32.toInt32), rv b27, rv b36, uu] [(.int 2), (.int (p0 &&& (3 : Int32)))]) (fun _ k => XS.icmpYes X41.here hx rfl (pc0 := 127) (pc' := 140) rfl (hb hby at_127) rfl (feq hc127).2 (by decide) (by decide) (XS.iload X41.here hx rfl (hb hby at_140) rfl (XS.iconst X41.here hx rfl (hb hby at_142) k))) ?_
        have hc143 : (p0 &&& (3 : Int32)) = (2 : Int32) := hc61
        refine opW T41 (mkF m 148 #[iv p0, iv p1, iv p2, iv p3, iv (p0 &&& (3 : Int32)), iv ((p1 &&& (65535 : Int32)).toUInt32.toUInt16.toUInt32.toInt32), iv ((p2 &&& (65535 : Int32)).toUInt32.toUInt16.toUInt32.toInt32), iv ((p3 &&& (65535 : Int32)).toUInt32.toUInt16.toUInt32.toInt32), rv b27, rv b36, uu] [(.int ((p1 &&& (65535 : Int32)).toUInt32.toUInt16.toUInt32.toInt32))]) (fun _ k => XS.icmpNo X41.here hx rfl (hb hby at_143) rfl (teq hc143).2 (XS.iload X41.here hx rfl (hb hby at_146) rfl k)) ?_
        obtain ⟨_, _, ⟨T44, L44, k44, n44⟩, -, X44', ⟨Lc44, hQ44, l44, y44, z44⟩, st'⟩ := Jvm.LawKit.callS X41 hx (y := y29) hown (mvT hZ (ow hw 43 rfl)) (mvT hZ (ow hw 44 rfl)) (mvT hZ (ow hw 45 rfl)) (mvT hZ (ow hw 46 rfl)) (by decide) (backOf (W := 0) (rm9 l Z aw hw [] ((p1 &&& (65535 : Int32)).toUInt32.toUInt16.toUInt32.toInt32) T41.heap) hZ (ow hw 46 rfl) (ow hw 45 rfl) (by decide) (by decide)) (g := (mkF m 148 #[iv p0, iv p1, iv p2, iv p3, iv (p0 &&& (3 : Int32)), iv ((p1 &&& (65535 : Int32)).toUInt32.toUInt16.toUInt32.toInt32), iv ((p2 &&& (65535 : Int32)).toUInt32.toUInt16.toUInt32.toInt32), iv ((p3 &&& (65535 : Int32)).toUInt32.toUInt16.toUInt32.toInt32), rv b27, rv b36, uu] [(.int ((p1 &&& (65535 : Int32)).toUInt32.toUInt16.toUInt32.toInt32))])) rfl (by rw [hml]; rfl) (argsL := [(.int ((p1 &&& (65535 : Int32)).toUInt32.toUInt16.toUInt32.toInt32))]) (rest := []) (lenOf own_pd21 rfl) rfl (by show 2 * 0 + _ ≤ _; exact Nat.le_of_eq rfl) (hb hby at_148) (fun _ _ => ⟨rfl, (rfl : T41.heap = T41.heap), (by decide : 4 + 0 ≤ _), (by decide : 12 + 0 ≤ _)⟩)
        dsimp only [Pt.U, Pt.locs, Pt.cells, Pt.slots] at X44' l44 y44 z44 st' hQ44
        subst l44 y44 z44
        obtain ⟨rfl, rfl, e44⟩ := hQ44
        have X44 : Stand p l e room_1 _ m #[(.int p0), (.int p1), (.int p2), (.int p3)] below meth c T44 _ 4 12 := own_locs X44'
        refine opW T44 (mkF m 151 #[iv p0, iv p1, iv p2, iv p3, iv (p0 &&& (3 : Int32)), iv ((p1 &&& (65535 : Int32)).toUInt32.toUInt16.toUInt32.toInt32), iv ((p2 &&& (65535 : Int32)).toUInt32.toUInt16.toUInt32.toInt32), iv ((p3 &&& (65535 : Int32)).toUInt32.toUInt16.toUInt32.toInt32), rv b27, rv b36, uu] [(.int (f9_0 ((p1 &&& (65535 : Int32)).toUInt32.toUInt16.toUInt32.toInt32)))]) (fun _ k => st' _ k) ?_
        refine own_iteTW R0 (K0 Z p0 p1 p2 p3  h0 n0) (fun hc151 => ?_) (fun hc151 => ?_)
        · skip
          refine opW T44 (mkF m 167 #[iv p0, iv p1, iv p2, iv p3, iv (p0 &&& (3 : Int32)), iv ((p1 &&& (65535 : Int32)).toUInt32.toUInt16.toUInt32.toInt32), iv ((p2 &&& (65535 : Int32)).toUInt32.toUInt16.toUInt32.toInt32), iv ((p3 &&& (65535 : Int32)).toUInt32.toUInt16.toUInt32.toInt32), rv b27, rv b36, uu] [(.int 0)]) (fun _ k => XS.ifYes X44.here hx rfl (pc0 := 151) (pc' := 166) rfl (hb hby at_151) rfl ((if0 _ _).trans (teq hc151).1) (by decide) (by decide) (XS.iconst X44.here hx rfl (hb hby at_166) k)) ?_
          exact g0_167a hw p0 p1 p2 p3  (p0 &&& (3 : Int32)) ((p1 &&& (65535 : Int32)).toUInt32.toUInt16.toUInt32.toInt32) ((p2 &&& (65535 : Int32)).toUInt32.toUInt16.toUInt32.toInt32) ((p3 &&& (65535 : Int32)).toUInt32.toUInt16.toUInt32.toInt32) b27 b36 (0 : Int32) (nar .char ((p1 &&& (65535 : Int32)).toUInt32.toUInt16.toUInt32.toInt32)) (nar .char ((p2 &&& (65535 : Int32)).toUInt32.toUInt16.toUInt32.toInt32)) Bd hml hZ hown hS T44 X44 e44 hk C0 SZ41 NF41 KP41 p41_0 p41_1 g_b36
        · skip
          refine opW T44 (mkF m 156 #[iv p0, iv p1, iv p2, iv p3, iv (p0 &&& (3 : Int32)), iv ((p1 &&& (65535 : Int32)).toUInt32.toUInt16.toUInt32.toInt32), iv ((p2 &&& (65535 : Int32)).toUInt32.toUInt16.toUInt32.toInt32), iv ((p3 &&& (65535 : Int32)).toUInt32.toUInt16.toUInt32.toInt32), rv b27, rv b36, uu] [(.int ((p2 &&& (65535 : Int32)).toUInt32.toUInt16.toUInt32.toInt32))]) (fun _ k => XS.ifNo X44.here hx rfl (hb hby at_151) rfl ((if0 _ _).trans (feq hc151).1) (XS.iload X44.here hx rfl (hb hby at_154) rfl k)) ?_
          obtain ⟨_, _, ⟨T45, L45, k45, n45⟩, -, X45', ⟨Lc45, hQ45, l45, y45, z45⟩, st'⟩ := Jvm.LawKit.callS X44 hx (y := y29) hown (mvT hZ (ow hw 43 rfl)) (mvT hZ (ow hw 44 rfl)) (mvT hZ (ow hw 45 rfl)) (mvT hZ (ow hw 46 rfl)) (by decide) (backOf (W := 0) (rm9 l Z aw hw [] ((p2 &&& (65535 : Int32)).toUInt32.toUInt16.toUInt32.toInt32) T41.heap) hZ (ow hw 46 rfl) (ow hw 45 rfl) (by decide) (by decide)) (g := (mkF m 156 #[iv p0, iv p1, iv p2, iv p3, iv (p0 &&& (3 : Int32)), iv ((p1 &&& (65535 : Int32)).toUInt32.toUInt16.toUInt32.toInt32), iv ((p2 &&& (65535 : Int32)).toUInt32.toUInt16.toUInt32.toInt32), iv ((p3 &&& (65535 : Int32)).toUInt32.toUInt16.toUInt32.toInt32), rv b27, rv b36, uu] [(.int ((p2 &&& (65535 : Int32)).toUInt32.toUInt16.toUInt32.toInt32))])) rfl (by rw [hml]; rfl) (argsL := [(.int ((p2 &&& (65535 : Int32)).toUInt32.toUInt16.toUInt32.toInt32))]) (rest := []) (lenOf own_pd21 rfl) rfl (by show 2 * 0 + _ ≤ _; exact Nat.le_of_eq rfl) (hb hby at_156) (fun _ _ => ⟨rfl, e44, (by decide : 4 + 0 ≤ _), (by decide : 12 + 0 ≤ _)⟩)
          dsimp only [Pt.U, Pt.locs, Pt.cells, Pt.slots] at X45' l45 y45 z45 st' hQ45
          subst l45 y45 z45
          obtain ⟨rfl, rfl, e45⟩ := hQ45
          have X45 : Stand p l e room_1 _ m #[(.int p0), (.int p1), (.int p2), (.int p3)] below meth c T45 _ 4 12 := own_locs X45'
          refine opW T45 (mkF m 159 #[iv p0, iv p1, iv p2, iv p3, iv (p0 &&& (3 : Int32)), iv ((p1 &&& (65535 : Int32)).toUInt32.toUInt16.toUInt32.toInt32), iv ((p2 &&& (65535 : Int32)).toUInt32.toUInt16.toUInt32.toInt32), iv ((p3 &&& (65535 : Int32)).toUInt32.toUInt16.toUInt32.toInt32), rv b27, rv b36, uu] [(.int (f9_0 ((p2 &&& (65535 : Int32)).toUInt32.toUInt16.toUInt32.toInt32)))]) (fun _ k => st' _ k) ?_
          refine own_iteTW R0 (K0 Z p0 p1 p2 p3  h0 n0) (fun hc159 => ?_) (fun hc159 => ?_)
          · skip
            refine opW T45 (mkF m 167 #[iv p0, iv p1, iv p2, iv p3, iv (p0 &&& (3 : Int32)), iv ((p1 &&& (65535 : Int32)).toUInt32.toUInt16.toUInt32.toInt32), iv ((p2 &&& (65535 : Int32)).toUInt32.toUInt16.toUInt32.toInt32), iv ((p3 &&& (65535 : Int32)).toUInt32.toUInt16.toUInt32.toInt32), rv b27, rv b36, uu] [(.int 0)]) (fun _ k => XS.ifYes X45.here hx rfl (pc0 := 159) (pc' := 166) rfl (hb hby at_159) rfl ((if0 _ _).trans (teq hc159).1) (by decide) (by decide) (XS.iconst X45.here hx rfl (hb hby at_166) k)) ?_
            exact g0_167a hw p0 p1 p2 p3  (p0 &&& (3 : Int32)) ((p1 &&& (65535 : Int32)).toUInt32.toUInt16.toUInt32.toInt32) ((p2 &&& (65535 : Int32)).toUInt32.toUInt16.toUInt32.toInt32) ((p3 &&& (65535 : Int32)).toUInt32.toUInt16.toUInt32.toInt32) b27 b36 (0 : Int32) (nar .char ((p1 &&& (65535 : Int32)).toUInt32.toUInt16.toUInt32.toInt32)) (nar .char ((p2 &&& (65535 : Int32)).toUInt32.toUInt16.toUInt32.toInt32)) Bd hml hZ hown hS T45 X45 e45 hk C0 SZ41 NF41 KP41 p41_0 p41_1 g_b36
          · skip
            refine opW T45 (mkF m 167 #[iv p0, iv p1, iv p2, iv p3, iv (p0 &&& (3 : Int32)), iv ((p1 &&& (65535 : Int32)).toUInt32.toUInt16.toUInt32.toInt32), iv ((p2 &&& (65535 : Int32)).toUInt32.toUInt16.toUInt32.toInt32), iv ((p3 &&& (65535 : Int32)).toUInt32.toUInt16.toUInt32.toInt32), rv b27, rv b36, uu] [(.int 1)]) (fun _ k => XS.ifNo X45.here hx rfl (hb hby at_159) rfl ((if0 _ _).trans (feq hc159).1) (XS.iconst X45.here hx rfl (hb hby at_162) (XS.goto X45.here hx rfl (pc0 := 163) (pc' := 167) rfl (hb hby at_163) (by decide) (by decide) k))) ?_
            exact g0_167a hw p0 p1 p2 p3  (p0 &&& (3 : Int32)) ((p1 &&& (65535 : Int32)).toUInt32.toUInt16.toUInt32.toInt32) ((p2 &&& (65535 : Int32)).toUInt32.toUInt16.toUInt32.toInt32) ((p3 &&& (65535 : Int32)).toUInt32.toUInt16.toUInt32.toInt32) b27 b36 (1 : Int32) (nar .char ((p1 &&& (65535 : Int32)).toUInt32.toUInt16.toUInt32.toInt32)) (nar .char ((p2 &&& (65535 : Int32)).toUInt32.toUInt16.toUInt32.toInt32)) Bd hml hZ hown hS T45 X45 e45 hk C0 SZ41 NF41 KP41 p41_0 p41_1 g_b36
      · skip
        refine opW T0 (mkF m 83 #[iv p0, iv p1, iv p2, iv p3, iv (p0 &&& (3 : Int32)), iv ((p1 &&& (65535 : Int32)).toUInt32.toUInt16.toUInt32.toInt32), iv ((p2 &&& (65535 : Int32)).toUInt32.toUInt16.toUInt32.toInt32), iv ((p3 &&& (65535 : Int32)).toUInt32.toUInt16.toUInt32.toInt32), uu, uu, uu] [(.int 3)]) (fun _ k => XS.icmpYes X0.here hx rfl (pc0 := 61) (pc' := 82) rfl (hb hby at_61) rfl (feq hc61).2 (by decide) (by decide) (XS.iconst X0.here hx rfl (hb hby at_82) k)) ?_
        obtain ⟨T46, h46, k46, X46, e46, E46, A46, st'⟩ := newP X0 hx hZ (ow hw 1 rfl) e0 (g := (mkF m 83 #[iv p0, iv p1, iv p2, iv p3, iv (p0 &&& (3 : Int32)), iv ((p1 &&& (65535 : Int32)).toUInt32.toUInt16.toUInt32.toInt32), iv ((p2 &&& (65535 : Int32)).toUInt32.toUInt16.toUInt32.toInt32), iv ((p3 &&& (65535 : Int32)).toUInt32.toUInt16.toUInt32.toInt32), uu, uu, uu] [(.int 3)])) rfl (hb hby at_83) rfl (by decide) (cap := 3) (by decide) (by decide) (by decide) (by decide)
        obtain ⟨b46, g46⟩ : ∃ z, z = h0.size := ⟨_, rfl⟩
        rw [← g46] at A46 st'
        have g_b46 : n0 ≤ b46 := Nat.le_trans SZ0 (Nat.le_of_eq g46.symm)
        have sz_b46 : h0.size ≤ b46 := Nat.le_trans KP0.1 (Nat.le_of_eq g46.symm)
        have KP46 := KP0.ext E46
        have SZ46 : n0 ≤ h46.size := Nat.le_trans SZ0 E46.1
        have f47 := own_J.ext J0 E46
        have f48 : own_Pv Z h46 b46 (3 : Int32) [(0 : Int32), (0 : Int32), (0 : Int32)] .char := ⟨_, (Arv.new A46 (by decide)).pad (pad_rep [] (.int 0) 3)⟩
        refine opW T46 (mkF m 89 #[iv p0, iv p1, iv p2, iv p3, iv (p0 &&& (3 : Int32)), iv ((p1 &&& (65535 : Int32)).toUInt32.toUInt16.toUInt32.toInt32), iv ((p2 &&& (65535 : Int32)).toUInt32.toUInt16.toUInt32.toInt32), iv ((p3 &&& (65535 : Int32)).toUInt32.toUInt16.toUInt32.toInt32), uu, uu, uu] [(.int ((p1 &&& (65535 : Int32)).toUInt32.toUInt16.toUInt32.toInt32)), (.int 0), (.ref b46), (.ref b46)]) (fun _ k => st' _ (XS.dup X46.here hx rfl (hb hby at_85) rfl rfl (XS.iconst X46.here hx rfl (hb hby at_86) (XS.iload X46.here hx rfl (hb hby at_87) rfl k)))) ?_
        obtain ⟨k49, cl49, Ar49, q49, S49, N49, H49, G49⟩ := id f48
        have hin49 : ¬ ((0 : Int32) < 0 ∨ cl49.slots.size ≤ ((0 : Int32)).toNatClampNeg) := inb_of S49 ⟨by decide, by decide⟩
        obtain ⟨T49, h49, X49, e49, W49, st'⟩ := stC X46 hx hZ e46 Ar49 (j := (0 : Int32)) hin49 (g := (mkF m 89 #[iv p0, iv p1, iv p2, iv p3, iv (p0 &&& (3 : Int32)), iv ((p1 &&& (65535 : Int32)).toUInt32.toUInt16.toUInt32.toInt32), iv ((p2 &&& (65535 : Int32)).toUInt32.toUInt16.toUInt32.toInt32), iv ((p3 &&& (65535 : Int32)).toUInt32.toUInt16.toUInt32.toInt32), uu, uu, uu] [(.int ((p1 &&& (65535 : Int32)).toUInt32.toUInt16.toUInt32.toInt32)), (.int 0), (.ref b46), (.ref b46)])) rfl rfl (hb hby at_89)
        have f50 : own_Pv Z h49 b46 (3 : Int32) [(nar .char ((p1 &&& (65535 : Int32)).toUInt32.toUInt16.toUInt32.toInt32)), (0 : Int32), (0 : Int32)] .char := ⟨_, Arv.set Ar49 q49 S49 N49 H49 G49 (fits_nar_char _) W49 0 rfl (Nat.le_of_ble_eq_true rfl)⟩
        have f51 := own_J.wr f47 W49
        have NF49 := Fr.snoc X49 NF0 g_b46
        have SZ49 : n0 ≤ h49.size := (Nat.le_trans SZ46 (Keep.of_wr W49).1)
        have KP49 : Keep h0 h49 [] := KP46.wr W49 (Or.inr sz_b46)
        refine opW T49 (mkF m 94 #[iv p0, iv p1, iv p2, iv p3, iv (p0 &&& (3 : Int32)), iv ((p1 &&& (65535 : Int32)).toUInt32.toUInt16.toUInt32.toInt32), iv ((p2 &&& (65535 : Int32)).toUInt32.toUInt16.toUInt32.toInt32), iv ((p3 &&& (65535 : Int32)).toUInt32.toUInt16.toUInt32.toInt32), uu, uu, uu] [(.int ((p2 &&& (65535 : Int32)).toUInt32.toUInt16.toUInt32.toInt32)), (.int 1), (.ref b46), (.ref b46)]) (fun _ k => st' _ (XS.dup X49.here hx rfl (hb hby at_90) rfl rfl (XS.iconst X49.here hx rfl (hb hby at_91) (XS.iload X49.here hx rfl (hb hby at_92) rfl k)))) ?_
        obtain ⟨k52, cl52, Ar52, q52, S52, N52, H52, G52⟩ := id f50
        have hin52 : ¬ ((1 : Int32) < 0 ∨ cl52.slots.size ≤ ((1 : Int32)).toNatClampNeg) := inb_of S52 ⟨by decide, by decide⟩
        obtain ⟨T52, h52, X52, e52, W52, st'⟩ := stC X49 hx hZ e49 Ar52 (j := (1 : Int32)) hin52 (g := (mkF m 94 #[iv p0, iv p1, iv p2, iv p3, iv (p0 &&& (3 : Int32)), iv ((p1 &&& (65535 : Int32)).toUInt32.toUInt16.toUInt32.toInt32), iv ((p2 &&& (65535 : Int32)).toUInt32.toUInt16.toUInt32.toInt32), iv ((p3 &&& (65535 : Int32)).toUInt32.toUInt16.toUInt32.toInt32), uu, uu, uu] [(.int ((p2 &&& (65535 : Int32)).toUInt32.toUInt16.toUInt32.toInt32)), (.int 1), (.ref b46), (.ref b46)])) rfl rfl (hb hby at_94)
        have f53 : own_Pv Z h52 b46 (3 : Int32) [(nar .char ((p1 &&& (65535 : Int32)).toUInt32.toUInt16.toUInt32.toInt32)), (nar .char ((p2 &&& (65535 : Int32)).toUInt32.toUInt16.toUInt32.toInt32)), (0 : Int32)] .char := ⟨_, Arv.set Ar52 q52 S52 N52 H52 G52 (fits_nar_char _) W52 1 rfl (Nat.le_of_ble_eq_true rfl)⟩
        have f54 := own_J.wr f51 W52
        have NF52 := Fr.snoc X52 NF49 g_b46
        have SZ52 : n0 ≤ h52.size := (Nat.le_trans SZ49 (Keep.of_wr W52).1)
        have KP52 : Keep h0 h52 [] := KP49.wr W52 (Or.inr sz_b46)
        refine opW T52 (mkF m 99 #[iv p0, iv p1, iv p2, iv p3, iv (p0 &&& (3 : Int32)), iv ((p1 &&& (65535 : Int32)).toUInt32.toUInt16.toUInt32.toInt32), iv ((p2 &&& (65535 : Int32)).toUInt32.toUInt16.toUInt32.toInt32), iv ((p3 &&& (65535 : Int32)).toUInt32.toUInt16.toUInt32.toInt32), uu, uu, uu] [(.int ((p3 &&& (65535 : Int32)).toUInt32.toUInt16.toUInt32.toInt32)), (.int 2), (.ref b46), (.ref b46)]) (fun _ k => st' _ (XS.dup X52.here hx rfl (hb hby at_95) rfl rfl (XS.iconst X52.here hx rfl (hb hby at_96) (XS.iload X52.here hx rfl (hb hby at_97) rfl k)))) ?_
        obtain ⟨k55, cl55, Ar55, q55, S55, N55, H55, G55⟩ := id f53
        have hin55 : ¬ ((2 : Int32) < 0 ∨ cl55.slots.size ≤ ((2 : Int32)).toNatClampNeg) := inb_of S55 ⟨by decide, by decide⟩
        obtain ⟨T55, h55, X55, e55, W55, st'⟩ := stC X52 hx hZ e52 Ar55 (j := (2 : Int32)) hin55 (g := (mkF m 99 #[iv p0, iv p1, iv p2, iv p3, iv (p0 &&& (3 : Int32)), iv ((p1 &&& (65535 : Int32)).toUInt32.toUInt16.toUInt32.toInt32), iv ((p2 &&& (65535 : Int32)).toUInt32.toUInt16.toUInt32.toInt32), iv ((p3 &&& (65535 : Int32)).toUInt32.toUInt16.toUInt32.toInt32), uu, uu, uu] [(.int ((p3 &&& (65535 : Int32)).toUInt32.toUInt16.toUInt32.toInt32)), (.int 2), (.ref b46), (.ref b46)])) rfl rfl (hb hby at_99)
        have f56 : own_Pv Z h55 b46 (3 : Int32) [(nar .char ((p1 &&& (65535 : Int32)).toUInt32.toUInt16.toUInt32.toInt32)), (nar .char ((p2 &&& (65535 : Int32)).toUInt32.toUInt16.toUInt32.toInt32)), (nar .char ((p3 &&& (65535 : Int32)).toUInt32.toUInt16.toUInt32.toInt32))] .char := ⟨_, Arv.set Ar55 q55 S55 N55 H55 G55 (fits_nar_char _) W55 2 rfl (Nat.le_of_ble_eq_true rfl)⟩
        have f57 := own_J.wr f54 W55
        have NF55 := Fr.snoc X55 NF52 g_b46
        have SZ55 : n0 ≤ h55.size := (Nat.le_trans SZ52 (Keep.of_wr W55).1)
        have KP55 : Keep h0 h55 [] := KP52.wr W55 (Or.inr sz_b46)
        refine opW T55 (mkF m 102 #[iv p0, iv p1, iv p2, iv p3, iv (p0 &&& (3 : Int32)), iv ((p1 &&& (65535 : Int32)).toUInt32.toUInt16.toUInt32.toInt32), iv ((p2 &&& (65535 : Int32)).toUInt32.toUInt16.toUInt32.toInt32), iv ((p3 &&& (65535 : Int32)).toUInt32.toUInt16.toUInt32.toInt32), rv b46, uu, uu] []) (fun _ k => st' _ (XS.astore X55.here hx rfl (hb hby at_100) rfl rfl (l' := #[iv p0, iv p1, iv p2, iv p3, iv (p0 &&& (3 : Int32)), iv ((p1 &&& (65535 : Int32)).toUInt32.toUInt16.toUInt32.toInt32), iv ((p2 &&& (65535 : Int32)).toUInt32.toUInt16.toUInt32.toInt32), iv ((p3 &&& (65535 : Int32)).toUInt32.toUInt16.toUInt32.toInt32), rv b46, uu, uu]) rfl k)) ?_
        obtain ⟨T58, h58, X58, e58, E58, A58, D58, -, st'⟩ := newO X55 hx hZ hown (ow hw 2 rfl) (ow hw 3 rfl) (ow hw 4 rfl) e55 (g := (mkF m 102 #[iv p0, iv p1, iv p2, iv p3, iv (p0 &&& (3 : Int32)), iv ((p1 &&& (65535 : Int32)).toUInt32.toUInt16.toUInt32.toInt32), iv ((p2 &&& (65535 : Int32)).toUInt32.toUInt16.toUInt32.toInt32), iv ((p3 &&& (65535 : Int32)).toUInt32.toUInt16.toUInt32.toInt32), rv b46, uu, uu] [])) rfl (hb hby at_102) (by decide) (by decide)
        obtain ⟨b58, g58⟩ : ∃ z, z = h55.size := ⟨_, rfl⟩
        rw [← g58] at A58 D58 st'
        have g_b58 : n0 ≤ b58 := Nat.le_trans SZ55 (Nat.le_of_eq g58.symm)
        have ne_b46_b58 : b46 ≠ b58 := Nat.ne_of_lt (Nat.lt_of_lt_of_le f56.lt (Nat.le_of_eq g58.symm))
        have sz_b58 : h0.size ≤ b58 := Nat.le_trans KP55.1 (Nat.le_of_eq g58.symm)
        have KP58 := KP55.ext E58
        have SZ58 : n0 ≤ h58.size := Nat.le_trans SZ55 E58.1
        have f59 := f56.ext E58
        have f60 := own_J.ext f57 E58
        have f61 : Fld Z h58 b58 cS "value" "[B" .null := D58 (Or.inr (ow hw 17 rfl)) (ty := (.array .byte)) (by decide)
        have f62 : Fld Z h58 b58 cS "coder" "B" (.int 0) := D58 (Or.inr (ow hw 18 rfl)) (ty := .byte) (by decide)
        refine opW T58 (mkF m 108 #[iv p0, iv p1, iv p2, iv p3, iv (p0 &&& (3 : Int32)), iv ((p1 &&& (65535 : Int32)).toUInt32.toUInt16.toUInt32.toInt32), iv ((p2 &&& (65535 : Int32)).toUInt32.toUInt16.toUInt32.toInt32), iv ((p3 &&& (65535 : Int32)).toUInt32.toUInt16.toUInt32.toInt32), rv b46, uu, uu] [(.ref b46), (.ref b58), (.ref b58)]) (fun _ k => st' _ (XS.dup X58.here hx rfl (hb hby at_105) rfl rfl (XS.aload X58.here hx rfl (hb hby at_106) rfl rfl k))) ?_
        obtain ⟨_, _, ⟨T63, L63, k63, n63⟩, -, X63', ⟨Lc63, hQ63, l63, y63, z63⟩, st'⟩ := X58.specialBack hx (y := y27) rfl hown (mvT hZ (ow hw 5 rfl)) (mvT hZ (ow hw 6 rfl)) (mvT hZ (ow hw 7 rfl)) (by decide) (backOf (W := 1) (rmsn3 l Z aw hw [] (nar .char ((p1 &&& (65535 : Int32)).toUInt32.toUInt16.toUInt32.toInt32)) (nar .char ((p2 &&& (65535 : Int32)).toUInt32.toUInt16.toUInt32.toInt32)) (nar .char ((p3 &&& (65535 : Int32)).toUInt32.toUInt16.toUInt32.toInt32)) b58 b46 h58 n0 SZ58 A58 f61 f62 f59 f60 (Ne.symm ne_b46_b58) ⟨own_ch_nar _, own_ch_nar _, own_ch_nar _⟩ g_b58) hZ (ow hw 7 rfl) (ow hw 4 rfl) (by decide) (by decide)) (g := (mkF m 108 #[iv p0, iv p1, iv p2, iv p3, iv (p0 &&& (3 : Int32)), iv ((p1 &&& (65535 : Int32)).toUInt32.toUInt16.toUInt32.toInt32), iv ((p2 &&& (65535 : Int32)).toUInt32.toUInt16.toUInt32.toInt32), iv ((p3 &&& (65535 : Int32)).toUInt32.toUInt16.toUInt32.toInt32), rv b46, uu, uu] [(.ref b46), (.ref b58), (.ref b58)])) rfl (by rw [hml]; rfl) (Steps.refl _) (a := b58) (argsL := [(.ref b46)]) (rest := [(.ref b58)]) (lenOf own_pd19 rfl) rfl (by show 2 * 0 + _ ≤ _; exact Nat.le_of_eq rfl) (hb hby at_108) (fun _ _ => ⟨rfl, e58, (by decide : 2 + 2 ≤ _), (by decide : 7 + 9 ≤ _)⟩)
        dsimp only [Pt.U, Pt.locs, Pt.cells, Pt.slots] at X63' l63 y63 z63 st' hQ63
        subst l63 y63 z63
        obtain ⟨rfl, NFq63, KPq63, p63_0, p63_1⟩ := hQ63
        have X63 : Stand p l e room_1 _ m #[(.int p0), (.int p1), (.int p2), (.int p3)] below meth c T63 _ 4 16 := X63'
        have NF63 := Fr.app NF55 NFq63
        have SZ63 : n0 ≤ T63.heap.size := Nat.le_trans SZ58 KPq63.1
        have KP63 : Keep h0 T63.heap [] := KP58.trans KPq63 (allS (Or.inr sz_b58) all0)
        have f64 := f59.keep KPq63 (ninS ne_b46_b58 nin0)
        have f65 := A58.keep KPq63
        refine opW T63 (mkF m 115 #[iv p0, iv p1, iv p2, iv p3, iv (p0 &&& (3 : Int32)), iv ((p1 &&& (65535 : Int32)).toUInt32.toUInt16.toUInt32.toInt32), iv ((p2 &&& (65535 : Int32)).toUInt32.toUInt16.toUInt32.toInt32), iv ((p3 &&& (65535 : Int32)).toUInt32.toUInt16.toUInt32.toInt32), rv b46, rv b58, uu] [(.int (p0 &&& (3 : Int32)))]) (fun _ k => st'.trans (XS.astore X63.here hx rfl (hb hby at_111) rfl rfl (l' := #[iv p0, iv p1, iv p2, iv p3, iv (p0 &&& (3 : Int32)), iv ((p1 &&& (65535 : Int32)).toUInt32.toUInt16.toUInt32.toInt32), iv ((p2 &&& (65535 : Int32)).toUInt32.toUInt16.toUInt32.toInt32), iv ((p3 &&& (65535 : Int32)).toUInt32.toUInt16.toUInt32.toInt32), rv b46, rv b58, uu]) rfl (XS.iload X63.here hx rfl (hb hby at_113) rfl k))) ?_
        have hc115 : ¬ ((p0 &&& (3 : Int32)) = (0 : Int32)) := hc28
        refine opW T63 (mkF m 127 #[iv p0, iv p1, iv p2, iv p3, iv (p0 &&& (3 : Int32)), iv ((p1 &&& (65535 : Int32)).toUInt32.toUInt16.toUInt32.toInt32), iv ((p2 &&& (65535 : Int32)).toUInt32.toUInt16.toUInt32.toInt32), iv ((p3 &&& (65535 : Int32)).toUInt32.toUInt16.toUInt32.toInt32), rv b46, rv b58, uu] [(.int 1), (.int (p0 &&& (3 : Int32)))]) (fun _ k => XS.ifYes X63.here hx rfl (pc0 := 115) (pc' := 124) rfl (hb hby at_115) rfl ((if0 _ _).trans (feq hc115).2) (by decide) (by decide) (XS.iload X63.here hx rfl (hb hby at_124) rfl (XS.iconst X63.here hx rfl (hb hby at_126) k))) ?_
        have hc127 : ¬ ((p0 &&& (3 : Int32)) = (1 : Int32)) := hc42
        refine opW T63 (mkF m 143 #[iv p0, iv p1, iv p2, iv p3, iv (p0 &&& (3 : Int32)), iv ((p1 &&& (65535 : Int32)).toUInt32.toUInt16.toUInt32.toInt32), iv ((p2 &&& (65535 : Int32)).toUInt32.toUInt16.toUInt32.toInt32), iv ((p3 &&& (65535 : Int32)).toUInt32.toUInt16.toUInt32.toInt32), rv b46, rv b58, uu] [(.int 2), (.int (p0 &&& (3 : Int32)))]) (fun _ k => XS.icmpYes X63.here hx rfl (pc0 := 127) (pc' := 140) rfl (hb hby at_127) rfl (feq hc127).2 (by decide) (by decide) (XS.iload X63.here hx rfl (hb hby at_140) rfl (XS.iconst X63.here hx rfl (hb hby at_142) k))) ?_
        have hc143 : ¬ ((p0 &&& (3 : Int32)) = (2 : Int32)) := hc61
        refine opW T63 (mkF m 174 #[iv p0, iv p1, iv p2, iv p3, iv (p0 &&& (3 : Int32)), iv ((p1 &&& (65535 : Int32)).toUInt32.toUInt16.toUInt32.toInt32), iv ((p2 &&& (65535 : Int32)).toUInt32.toUInt16.toUInt32.toInt32), iv ((p3 &&& (65535 : Int32)).toUInt32.toUInt16.toUInt32.toInt32), rv b46, rv b58, uu] [(.int ((p1 &&& (65535 : Int32)).toUInt32.toUInt16.toUInt32.toInt32))]) (fun _ k => XS.icmpYes X63.here hx rfl (pc0 := 143) (pc' := 172) rfl (hb hby at_143) rfl (feq hc143).2 (by decide) (by decide) (XS.iload X63.here hx rfl (hb hby at_172) rfl k)) ?_
        obtain ⟨_, _, ⟨T66, L66, k66, n66⟩, -, X66', ⟨Lc66, hQ66, l66, y66, z66⟩, st'⟩ := Jvm.LawKit.callS X63 hx (y := y29) hown (mvT hZ (ow hw 43 rfl)) (mvT hZ (ow hw 44 rfl)) (mvT hZ (ow hw 45 rfl)) (mvT hZ (ow hw 46 rfl)) (by decide) (backOf (W := 0) (rm9 l Z aw hw [] ((p1 &&& (65535 : Int32)).toUInt32.toUInt16.toUInt32.toInt32) T63.heap) hZ (ow hw 46 rfl) (ow hw 45 rfl) (by decide) (by decide)) (g := (mkF m 174 #[iv p0, iv p1, iv p2, iv p3, iv (p0 &&& (3 : Int32)), iv ((p1 &&& (65535 : Int32)).toUInt32.toUInt16.toUInt32.toInt32), iv ((p2 &&& (65535 : Int32)).toUInt32.toUInt16.toUInt32.toInt32), iv ((p3 &&& (65535 : Int32)).toUInt32.toUInt16.toUInt32.toInt32), rv b46, rv b58, uu] [(.int ((p1 &&& (65535 : Int32)).toUInt32.toUInt16.toUInt32.toInt32))])) rfl (by rw [hml]; rfl) (argsL := [(.int ((p1 &&& (65535 : Int32)).toUInt32.toUInt16.toUInt32.toInt32))]) (rest := []) (lenOf own_pd21 rfl) rfl (by show 2 * 0 + _ ≤ _; exact Nat.le_of_eq rfl) (hb hby at_174) (fun _ _ => ⟨rfl, (rfl : T63.heap = T63.heap), (by decide : 4 + 0 ≤ _), (by decide : 16 + 0 ≤ _)⟩)
        dsimp only [Pt.U, Pt.locs, Pt.cells, Pt.slots] at X66' l66 y66 z66 st' hQ66
        subst l66 y66 z66
        obtain ⟨rfl, rfl, e66⟩ := hQ66
        have X66 : Stand p l e room_1 _ m #[(.int p0), (.int p1), (.int p2), (.int p3)] below meth c T66 _ 4 16 := own_locs X66'
        refine opW T66 (mkF m 177 #[iv p0, iv p1, iv p2, iv p3, iv (p0 &&& (3 : Int32)), iv ((p1 &&& (65535 : Int32)).toUInt32.toUInt16.toUInt32.toInt32), iv ((p2 &&& (65535 : Int32)).toUInt32.toUInt16.toUInt32.toInt32), iv ((p3 &&& (65535 : Int32)).toUInt32.toUInt16.toUInt32.toInt32), rv b46, rv b58, uu] [(.int (f9_0 ((p1 &&& (65535 : Int32)).toUInt32.toUInt16.toUInt32.toInt32)))]) (fun _ k => st' _ k) ?_
        refine own_iteTW R0 (K0 Z p0 p1 p2 p3  h0 n0) (fun hc177 => ?_) (fun hc177 => ?_)
        · skip
          refine opW T66 (mkF m 201 #[iv p0, iv p1, iv p2, iv p3, iv (p0 &&& (3 : Int32)), iv ((p1 &&& (65535 : Int32)).toUInt32.toUInt16.toUInt32.toInt32), iv ((p2 &&& (65535 : Int32)).toUInt32.toUInt16.toUInt32.toInt32), iv ((p3 &&& (65535 : Int32)).toUInt32.toUInt16.toUInt32.toInt32), rv b46, rv b58, uu] [(.int 0)]) (fun _ k => XS.ifYes X66.here hx rfl (pc0 := 177) (pc' := 200) rfl (hb hby at_177) rfl ((if0 _ _).trans (teq hc177).1) (by decide) (by decide) (XS.iconst X66.here hx rfl (hb hby at_200) k)) ?_
          exact g0_201a hw p0 p1 p2 p3  (p0 &&& (3 : Int32)) ((p1 &&& (65535 : Int32)).toUInt32.toUInt16.toUInt32.toInt32) ((p2 &&& (65535 : Int32)).toUInt32.toUInt16.toUInt32.toInt32) ((p3 &&& (65535 : Int32)).toUInt32.toUInt16.toUInt32.toInt32) b46 b58 (0 : Int32) (nar .char ((p1 &&& (65535 : Int32)).toUInt32.toUInt16.toUInt32.toInt32)) (nar .char ((p2 &&& (65535 : Int32)).toUInt32.toUInt16.toUInt32.toInt32)) (nar .char ((p3 &&& (65535 : Int32)).toUInt32.toUInt16.toUInt32.toInt32)) Bd hml hZ hown hS T66 X66 e66 hk C0 SZ63 NF63 KP63 p63_0 p63_1 g_b58
        · skip
          refine opW T66 (mkF m 182 #[iv p0, iv p1, iv p2, iv p3, iv (p0 &&& (3 : Int32)), iv ((p1 &&& (65535 : Int32)).toUInt32.toUInt16.toUInt32.toInt32), iv ((p2 &&& (65535 : Int32)).toUInt32.toUInt16.toUInt32.toInt32), iv ((p3 &&& (65535 : Int32)).toUInt32.toUInt16.toUInt32.toInt32), rv b46, rv b58, uu] [(.int ((p2 &&& (65535 : Int32)).toUInt32.toUInt16.toUInt32.toInt32))]) (fun _ k => XS.ifNo X66.here hx rfl (hb hby at_177) rfl ((if0 _ _).trans (feq hc177).1) (XS.iload X66.here hx rfl (hb hby at_180) rfl k)) ?_
          obtain ⟨_, _, ⟨T67, L67, k67, n67⟩, -, X67', ⟨Lc67, hQ67, l67, y67, z67⟩, st'⟩ := Jvm.LawKit.callS X66 hx (y := y29) hown (mvT hZ (ow hw 43 rfl)) (mvT hZ (ow hw 44 rfl)) (mvT hZ (ow hw 45 rfl)) (mvT hZ (ow hw 46 rfl)) (by decide) (backOf (W := 0) (rm9 l Z aw hw [] ((p2 &&& (65535 : Int32)).toUInt32.toUInt16.toUInt32.toInt32) T63.heap) hZ (ow hw 46 rfl) (ow hw 45 rfl) (by decide) (by decide)) (g := (mkF m 182 #[iv p0, iv p1, iv p2, iv p3, iv (p0 &&& (3 : Int32)), iv ((p1 &&& (65535 : Int32)).toUInt32.toUInt16.toUInt32.toInt32), iv ((p2 &&& (65535 : Int32)).toUInt32.toUInt16.toUInt32.toInt32), iv ((p3 &&& (65535 : Int32)).toUInt32.toUInt16.toUInt32.toInt32), rv b46, rv b58, uu] [(.int ((p2 &&& (65535 : Int32)).toUInt32.toUInt16.toUInt32.toInt32))])) rfl (by rw [hml]; rfl) (argsL := [(.int ((p2 &&& (65535 : Int32)).toUInt32.toUInt16.toUInt32.toInt32))]) (rest := []) (lenOf own_pd21 rfl) rfl (by show 2 * 0 + _ ≤ _; exact Nat.le_of_eq rfl) (hb hby at_182) (fun _ _ => ⟨rfl, e66, (by decide : 4 + 0 ≤ _), (by decide : 16 + 0 ≤ _)⟩)
          dsimp only [Pt.U, Pt.locs, Pt.cells, Pt.slots] at X67' l67 y67 z67 st' hQ67
          subst l67 y67 z67
          obtain ⟨rfl, rfl, e67⟩ := hQ67
          have X67 : Stand p l e room_1 _ m #[(.int p0), (.int p1), (.int p2), (.int p3)] below meth c T67 _ 4 16 := own_locs X67'
          refine opW T67 (mkF m 185 #[iv p0, iv p1, iv p2, iv p3, iv (p0 &&& (3 : Int32)), iv ((p1 &&& (65535 : Int32)).toUInt32.toUInt16.toUInt32.toInt32), iv ((p2 &&& (65535 : Int32)).toUInt32.toUInt16.toUInt32.toInt32), iv ((p3 &&& (65535 : Int32)).toUInt32.toUInt16.toUInt32.toInt32), rv b46, rv b58, uu] [(.int (f9_0 ((p2 &&& (65535 : Int32)).toUInt32.toUInt16.toUInt32.toInt32)))]) (fun _ k => st' _ k) ?_
          refine own_iteTW R0 (K0 Z p0 p1 p2 p3  h0 n0) (fun hc185 => ?_) (fun hc185 => ?_)
          · skip
            refine opW T67 (mkF m 201 #[iv p0, iv p1, iv p2, iv p3, iv (p0 &&& (3 : Int32)), iv ((p1 &&& (65535 : Int32)).toUInt32.toUInt16.toUInt32.toInt32), iv ((p2 &&& (65535 : Int32)).toUInt32.toUInt16.toUInt32.toInt32), iv ((p3 &&& (65535 : Int32)).toUInt32.toUInt16.toUInt32.toInt32), rv b46, rv b58, uu] [(.int 0)]) (fun _ k => XS.ifYes X67.here hx rfl (pc0 := 185) (pc' := 200) rfl (hb hby at_185) rfl ((if0 _ _).trans (teq hc185).1) (by decide) (by decide) (XS.iconst X67.here hx rfl (hb hby at_200) k)) ?_
            exact g0_201a hw p0 p1 p2 p3  (p0 &&& (3 : Int32)) ((p1 &&& (65535 : Int32)).toUInt32.toUInt16.toUInt32.toInt32) ((p2 &&& (65535 : Int32)).toUInt32.toUInt16.toUInt32.toInt32) ((p3 &&& (65535 : Int32)).toUInt32.toUInt16.toUInt32.toInt32) b46 b58 (0 : Int32) (nar .char ((p1 &&& (65535 : Int32)).toUInt32.toUInt16.toUInt32.toInt32)) (nar .char ((p2 &&& (65535 : Int32)).toUInt32.toUInt16.toUInt32.toInt32)) (nar .char ((p3 &&& (65535 : Int32)).toUInt32.toUInt16.toUInt32.toInt32)) Bd hml hZ hown hS T67 X67 e67 hk C0 SZ63 NF63 KP63 p63_0 p63_1 g_b58
          · skip
            refine opW T67 (mkF m 190 #[iv p0, iv p1, iv p2, iv p3, iv (p0 &&& (3 : Int32)), iv ((p1 &&& (65535 : Int32)).toUInt32.toUInt16.toUInt32.toInt32), iv ((p2 &&& (65535 : Int32)).toUInt32.toUInt16.toUInt32.toInt32), iv ((p3 &&& (65535 : Int32)).toUInt32.toUInt16.toUInt32.toInt32), rv b46, rv b58, uu] [(.int ((p3 &&& (65535 : Int32)).toUInt32.toUInt16.toUInt32.toInt32))]) (fun _ k => XS.ifNo X67.here hx rfl (hb hby at_185) rfl ((if0 _ _).trans (feq hc185).1) (XS.iload X67.here hx rfl (hb hby at_188) rfl k)) ?_
            obtain ⟨_, _, ⟨T68, L68, k68, n68⟩, -, X68', ⟨Lc68, hQ68, l68, y68, z68⟩, st'⟩ := Jvm.LawKit.callS X67 hx (y := y29) hown (mvT hZ (ow hw 43 rfl)) (mvT hZ (ow hw 44 rfl)) (mvT hZ (ow hw 45 rfl)) (mvT hZ (ow hw 46 rfl)) (by decide) (backOf (W := 0) (rm9 l Z aw hw [] ((p3 &&& (65535 : Int32)).toUInt32.toUInt16.toUInt32.toInt32) T63.heap) hZ (ow hw 46 rfl) (ow hw 45 rfl) (by decide) (by decide)) (g := (mkF m 190 #[iv p0, iv p1, iv p2, iv p3, iv (p0 &&& (3 : Int32)), iv ((p1 &&& (65535 : Int32)).toUInt32.toUInt16.toUInt32.toInt32), iv ((p2 &&& (65535 : Int32)).toUInt32.toUInt16.toUInt32.toInt32), iv ((p3 &&& (65535 : Int32)).toUInt32.toUInt16.toUInt32.toInt32), rv b46, rv b58, uu] [(.int ((p3 &&& (65535 : Int32)).toUInt32.toUInt16.toUInt32.toInt32))])) rfl (by rw [hml]; rfl) (argsL := [(.int ((p3 &&& (65535 : Int32)).toUInt32.toUInt16.toUInt32.toInt32))]) (rest := []) (lenOf own_pd21 rfl) rfl (by show 2 * 0 + _ ≤ _; exact Nat.le_of_eq rfl) (hb hby at_190) (fun _ _ => ⟨rfl, e67, (by decide : 4 + 0 ≤ _), (by decide : 16 + 0 ≤ _)⟩)
            dsimp only [Pt.U, Pt.locs, Pt.cells, Pt.slots] at X68' l68 y68 z68 st' hQ68
            subst l68 y68 z68
            obtain ⟨rfl, rfl, e68⟩ := hQ68
            have X68 : Stand p l e room_1 _ m #[(.int p0), (.int p1), (.int p2), (.int p3)] below meth c T68 _ 4 16 := own_locs X68'
            refine opW T68 (mkF m 193 #[iv p0, iv p1, iv p2, iv p3, iv (p0 &&& (3 : Int32)), iv ((p1 &&& (65535 : Int32)).toUInt32.toUInt16.toUInt32.toInt32), iv ((p2 &&& (65535 : Int32)).toUInt32.toUInt16.toUInt32.toInt32), iv ((p3 &&& (65535 : Int32)).toUInt32.toUInt16.toUInt32.toInt32), rv b46, rv b58, uu] [(.int (f9_0 ((p3 &&& (65535 : Int32)).toUInt32.toUInt16.toUInt32.toInt32)))]) (fun _ k => st' _ k) ?_
            refine own_iteTW R0 (K0 Z p0 p1 p2 p3  h0 n0) (fun hc193 => ?_) (fun hc193 => ?_)
            · skip
              refine opW T68 (mkF m 201 #[iv p0, iv p1, iv p2, iv p3, iv (p0 &&& (3 : Int32)), iv ((p1 &&& (65535 : Int32)).toUInt32.toUInt16.toUInt32.toInt32), iv ((p2 &&& (65535 : Int32)).toUInt32.toUInt16.toUInt32.toInt32), iv ((p3 &&& (65535 : Int32)).toUInt32.toUInt16.toUInt32.toInt32), rv b46, rv b58, uu] [(.int 0)]) (fun _ k => XS.ifYes X68.here hx rfl (pc0 := 193) (pc' := 200) rfl (hb hby at_193) rfl ((if0 _ _).trans (teq hc193).1) (by decide) (by decide) (XS.iconst X68.here hx rfl (hb hby at_200) k)) ?_
              exact g0_201a hw p0 p1 p2 p3  (p0 &&& (3 : Int32)) ((p1 &&& (65535 : Int32)).toUInt32.toUInt16.toUInt32.toInt32) ((p2 &&& (65535 : Int32)).toUInt32.toUInt16.toUInt32.toInt32) ((p3 &&& (65535 : Int32)).toUInt32.toUInt16.toUInt32.toInt32) b46 b58 (0 : Int32) (nar .char ((p1 &&& (65535 : Int32)).toUInt32.toUInt16.toUInt32.toInt32)) (nar .char ((p2 &&& (65535 : Int32)).toUInt32.toUInt16.toUInt32.toInt32)) (nar .char ((p3 &&& (65535 : Int32)).toUInt32.toUInt16.toUInt32.toInt32)) Bd hml hZ hown hS T68 X68 e68 hk C0 SZ63 NF63 KP63 p63_0 p63_1 g_b58
            · skip
              refine opW T68 (mkF m 201 #[iv p0, iv p1, iv p2, iv p3, iv (p0 &&& (3 : Int32)), iv ((p1 &&& (65535 : Int32)).toUInt32.toUInt16.toUInt32.toInt32), iv ((p2 &&& (65535 : Int32)).toUInt32.toUInt16.toUInt32.toInt32), iv ((p3 &&& (65535 : Int32)).toUInt32.toUInt16.toUInt32.toInt32), rv b46, rv b58, uu] [(.int 1)]) (fun _ k => XS.ifNo X68.here hx rfl (hb hby at_193) rfl ((if0 _ _).trans (feq hc193).1) (XS.iconst X68.here hx rfl (hb hby at_196) (XS.goto X68.here hx rfl (pc0 := 197) (pc' := 201) rfl (hb hby at_197) (by decide) (by decide) k))) ?_
              exact g0_201a hw p0 p1 p2 p3  (p0 &&& (3 : Int32)) ((p1 &&& (65535 : Int32)).toUInt32.toUInt16.toUInt32.toInt32) ((p2 &&& (65535 : Int32)).toUInt32.toUInt16.toUInt32.toInt32) ((p3 &&& (65535 : Int32)).toUInt32.toUInt16.toUInt32.toInt32) b46 b58 (1 : Int32) (nar .char ((p1 &&& (65535 : Int32)).toUInt32.toUInt16.toUInt32.toInt32)) (nar .char ((p2 &&& (65535 : Int32)).toUInt32.toUInt16.toUInt32.toInt32)) (nar .char ((p3 &&& (65535 : Int32)).toUInt32.toUInt16.toUInt32.toInt32)) Bd hml hZ hown hS T68 X68 e68 hk C0 SZ63 NF63 KP63 p63_0 p63_1 g_b58
theorem ef_0 (m : MethodId) (p0 p1 p2 p3 : Int32) : entryFrame m #[(.int p0), (.int p1), (.int p2), (.int p3)] maxLocals = mkF m 0 #[iv p0, iv p1, iv p2, iv p3, uu, uu, uu, uu, uu, uu, uu] [] := by first | (simp [entryFrame, mkF, argsToLocals, Value.category, maxLocals]; done) | rfl
set_option maxRecDepth 65536 in
set_option maxHeartbeats 40000000 in
theorem rm0 (l : Launch) (Z : State) (aw : Array Value) (hw : HW aw Z) (ws : List Jvm.Cond) (p0 p1 p2 p3 : Int32)  (h0 : Heap) (n0 : Nat) (SZ0 : n0 ≤ h0.size) (J0 : own_J Z h0) :
    MetFree l x (head1 (Jvm.Cond.code x code maxLocals ret :: ws) room_1) (fun a U => a = #[(.int p0), (.int p1), (.int p2), (.int p3)] ∧ Z.Warmed39 U.vm ∧ U.heap = h0 ∧ CHv Z consts_1 U.vm h0) (fun _ _ _ _ _ => True) (fun _ U o U' => ∃ v L, o = .returned v ∧ own_Q (R0 (f0_0 p0 p1 p2 p3)) (K0 Z p0 p1 p2 p3  h0 n0 (f0_0 p0 p1 p2 p3)) v U'.heap L ∧ ReturnedEndW U o U' L room_1.cells room_1.slots) := by
  refine MetFree.of_bodySF (plainFor_of_name own_pn1) hisR ?_
  intro p e s m args below meth c s₁ Bd hml0 hP hK
  obtain ⟨rfl, hZ, hh, HC⟩ := hP
  have hown := findClass_of_methodNamed Bd.named
  have hS : s.Since s.vm 0 := (State.WarmedH.refl s).since 0
  have hml : c.maxLocals = 11 := hml0
  have e0 : s₁.heap = h0 := by rw [← hh, Bd.state]; rfl
  exact own_preW (fun t k => castTop (ef_0 m p0 p1 p2 p3) k) (g0_0 hw p0 p1 p2 p3  Bd hml hZ hown hS s₁ (Stand.of_body Bd) e0 (Nat.zero_le _) HC SZ0 (Fr.nil n0) (Keep.refl _ _) J0)
theorem own_ik {c : Int32} (h1 : 0 ≤ c.toInt) (h2 : c.toInt ≤ 255) (k : Int32) (k1 : 0 ≤ k.toInt) (k2 : k.toInt < 128) : k = c.toInt8.toInt32 ↔ c = k := by
  have q := c_i2b c
  rw [← Int32.toInt_inj, ← Int32.toInt_inj]
  omega
theorem own_io (c : Int32) (h : own_ch c) : fio1_0 c < 0 ↔ f9_42 c = 0 := by
  by_cases e1 : c = 33; · subst e1; decide
  by_cases e2 : c = 35; · subst e2; decide
  by_cases e3 : c = 36; · subst e3; decide
  by_cases e4 : c = 37; · subst e4; decide
  by_cases e5 : c = 38; · subst e5; decide
  by_cases e6 : c = 39; · subst e6; decide
  by_cases e7 : c = 42; · subst e7; decide
  by_cases e8 : c = 43; · subst e8; decide
  by_cases e9 : c = 45; · subst e9; decide
  by_cases f1 : c = 46; · subst f1; decide
  by_cases f2 : c = 94; · subst f2; decide
  by_cases f3 : c = 95; · subst f3; decide
  by_cases f4 : c = 96; · subst f4; decide
  by_cases f5 : c = 124; · subst f5; decide
  by_cases f6 : c = 126; · subst f6; decide
  have b : f9_42 c = 0 := by
    unfold f9_42
    rw [if_neg e1, if_neg e2, if_neg e3, if_neg e4, if_neg e5, if_neg e6, if_neg e7, if_neg e8, if_neg e9, if_neg f1, if_neg f2, if_neg f3, if_neg f4, if_neg f5, if_neg f6]
  have a : fio1_0 c = -1 := by
    unfold fio1_0 fio2_0 flio_0 f20_0
    obtain ⟨h1, h2⟩ := h
    have z : ¬ c < 0 := by rw [Int32.lt_iff_toInt_lt, show (0 : Int32).toInt = 0 from by decide]; omega
    rw [if_neg z]
    by_cases g : (255 : Int32) < c
    · rw [if_pos g, f20_15, if_pos rfl]
    · rw [if_neg g, if_neg (by decide)]
      rw [Int32.lt_iff_toInt_lt, show (255 : Int32).toInt = 255 from by decide] at g
      have k := own_ik h1 (by omega : c.toInt ≤ 255)
      unfold fioc_0
      rw [if_neg (mt (k 33 (by decide) (by decide)).1 e1), if_neg (mt (k 35 (by decide) (by decide)).1 e2), if_neg (mt (k 36 (by decide) (by decide)).1 e3), if_neg (mt (k 37 (by decide) (by decide)).1 e4), if_neg (mt (k 38 (by decide) (by decide)).1 e5), if_neg (mt (k 39 (by decide) (by decide)).1 e6), if_neg (mt (k 42 (by decide) (by decide)).1 e7), if_neg (mt (k 43 (by decide) (by decide)).1 e8), if_neg (mt (k 45 (by decide) (by decide)).1 e9), if_neg (mt (k 46 (by decide) (by decide)).1 f1), if_neg (mt (k 94 (by decide) (by decide)).1 f2), if_neg (mt (k 95 (by decide) (by decide)).1 f3), if_neg (mt (k 96 (by decide) (by decide)).1 f4), if_neg (mt (k 124 (by decide) (by decide)).1 f5), if_neg (mt (k 126 (by decide) (by decide)).1 f6)]
  rw [a, b]; decide
theorem own_tok (c a : Int32) (h : own_ch c) : (if c < 97 then (if c < 65 then (if c < 48 then (if fio1_0 c < 0 then 0 else a) else (if 57 < c then (if fio1_0 c < 0 then 0 else a) else a)) else (if 90 < c then (if c < 48 then (if fio1_0 c < 0 then 0 else a) else (if 57 < c then (if fio1_0 c < 0 then 0 else a) else a)) else a)) else (if 122 < c then (if c < 65 then (if c < 48 then (if fio1_0 c < 0 then 0 else a) else (if 57 < c then (if fio1_0 c < 0 then 0 else a) else a)) else (if 90 < c then (if c < 48 then (if fio1_0 c < 0 then 0 else a) else (if 57 < c then (if fio1_0 c < 0 then 0 else a) else a)) else a)) else a)) = if f9_0 c = 0 then 0 else a := by
  have q := propext (own_io c h)
  unfold f9_0 f9_14 f9_28
  simp only [q]
  have o : ¬ (1 : Int32) = 0 := by decide
  by_cases a1 : c < 97
  · simp only [if_pos a1]
    by_cases a3 : c < 65
    · simp only [if_pos a3]
      by_cases a5 : c < 48
      · simp only [if_pos a5]
      · simp only [if_neg a5]
        by_cases a6 : 57 < c
        · simp only [if_pos a6]
        · simp only [if_neg a6, if_neg o]
    · simp only [if_neg a3]
      by_cases a4 : 90 < c
      · simp only [if_pos a4]
        by_cases a5 : c < 48
        · simp only [if_pos a5]
        · simp only [if_neg a5]
          by_cases a6 : 57 < c
          · simp only [if_pos a6]
          · simp only [if_neg a6, if_neg o]
      · simp only [if_neg a4, if_neg o]
  · simp only [if_neg a1]
    by_cases a2 : 122 < c
    · simp only [if_pos a2]
      by_cases a3 : c < 65
      · simp only [if_pos a3]
        by_cases a5 : c < 48
        · simp only [if_pos a5]
        · simp only [if_neg a5]
          by_cases a6 : 57 < c
          · simp only [if_pos a6]
          · simp only [if_neg a6, if_neg o]
      · simp only [if_neg a3]
        by_cases a4 : 90 < c
        · simp only [if_pos a4]
          by_cases a5 : c < 48
          · simp only [if_pos a5]
          · simp only [if_neg a5]
            by_cases a6 : 57 < c
            · simp only [if_pos a6]
            · simp only [if_neg a6, if_neg o]
        · simp only [if_neg a4, if_neg o]
    · simp only [if_neg a2, if_neg o]
theorem own_or {P : Prop} [Decidable P] {a b : Int32} (h1 : a = 0 ∨ a = 1) (h2 : b = 0 ∨ b = 1) : (if P then a else b) = 0 ∨ (if P then a else b) = 1 := by
  by_cases q : P
  · rw [if_pos q]; exact h1
  · rw [if_neg q]; exact h2
theorem own_f9 (c : Int32) : f9_0 c = 0 ∨ f9_0 c = 1 := by
  have u : (1 : Int32) = 0 ∨ (1 : Int32) = 1 := Or.inr rfl
  have z : f9_42 c = 0 ∨ f9_42 c = 1 := by
    unfold f9_42 f9_132
    exact own_or u (own_or u (own_or u (own_or u (own_or u (own_or u (own_or u (own_or u (own_or u (own_or u (own_or u (own_or u (own_or u (own_or u (own_or u (Or.inl rfl)))))))))))))))
  have y : f9_28 c = 0 ∨ f9_28 c = 1 := own_or z (own_or z u)
  have x : f9_14 c = 0 ∨ f9_14 c = 1 := own_or y (own_or y u)
  exact own_or x (own_or x u)
theorem own_t1 (c0 : Int32) (h0 : own_ch c0) : ft1_0 c0 = if f9_0 c0 = 0 then 0 else 1 := by
  unfold ft1_0 ft1_61a ft1_65a ft1_82a
  exact own_tok c0 1 h0
theorem own_t2 (c0 c1 : Int32) (h0 : own_ch c0) (h1 : own_ch c1) : ft2_0 c0 c1 = if f9_0 c0 = 0 then 0 else if f9_0 c1 = 0 then 0 else 1 := by
  unfold ft2_0 ft2_61a ft2_65a
  rw [own_tok c0 (ft2_82a c0 c1) h0]
  unfold ft2_82a ft2_61b ft2_65b ft2_82b
  rw [own_tok c1 1 h1]
theorem own_t3 (c0 c1 c2 : Int32) (h0 : own_ch c0) (h1 : own_ch c1) (h2 : own_ch c2) : ft3_0 c0 c1 c2 = if f9_0 c0 = 0 then 0 else if f9_0 c1 = 0 then 0 else if f9_0 c2 = 0 then 0 else 1 := by
  unfold ft3_0 ft3_61a ft3_65a
  rw [own_tok c0 (ft3_82a c0 c1 c2) h0]
  unfold ft3_82a ft3_61b ft3_65b
  rw [own_tok c1 (ft3_82b c0 c1 c2) h1]
  unfold ft3_82b ft3_61c ft3_65c ft3_82c
  rw [own_tok c2 1 h2]
theorem own_law (p0 p1 p2 p3 : Int32) : f0_0 p0 p1 p2 p3 = 1 := by
  have hc : ∀ x : Int32, own_ch x.toUInt32.toUInt16.toUInt32.toInt32 := fun x => by have := c_i2c x; exact ⟨by omega, by omega⟩
  unfold f0_0
  have k1 := hc (p1 &&& 65535)
  have k2 := hc (p2 &&& 65535)
  have k3 := hc (p3 &&& 65535)
  generalize (p1 &&& (65535 : Int32)).toUInt32.toUInt16.toUInt32.toInt32 = c0 at *
  generalize (p2 &&& (65535 : Int32)).toUInt32.toUInt16.toUInt32.toInt32 = c1 at *
  generalize (p3 &&& (65535 : Int32)).toUInt32.toUInt16.toUInt32.toInt32 = c2 at *
  rw [own_narc k1, own_narc k2, own_narc k3]
  unfold f0_167a f0_201a
  rw [own_t1 c0 k1, own_t2 c0 c1 k1 k2, own_t3 c0 c1 c2 k1 k2 k3]
  have o : ¬ (1 : Int32) = 0 := by decide
  split
  · rfl
  · split
    · rcases own_f9 c0 with q | q <;> rw [q] <;> rfl
    · rcases own_f9 c0 with q0 | q0 <;> rcases own_f9 c1 with q1 | q1 <;> rcases own_f9 c2 with q2 | q2 <;> simp [q0, q1, q2]
theorem own_eqI {t : Term} {n : Int32} {args : Array Value} {s : State} (h : (Jvm.Cond.eq t (.int n)).value args s none s [] = some true) : t.eval args s none [] s = some (.int n) := by
  simp only [Cond.value] at h
  have hn : (Term.int n).eval args s none [] s = some (.int n) := rfl
  rw [hn] at h
  cases ht : t.eval args s none [] s with
  | none => simp [ht] at h
  | some v => cases v <;> simp [ht] at h ⊢; exact h
theorem own_neI {t : Term} {n x : Int32} {args : Array Value} {s : State} (h : (Jvm.Cond.not (Jvm.Cond.eq t (.int n))).value args s none s [] = some true) (e : t.eval args s none [] s = some (.int x)) : x ≠ n := by
  rintro rfl
  have hn : (Term.int x).eval args s none [] s = some (.int x) := rfl
  simp [Cond.value, hn, e] at h
set_option maxRecDepth 65536 in
set_option maxHeartbeats 40000000 in
theorem comes_1 {Post : Tables → Env → Array Value → State → Outcome → State → Prop} (hpost : ∀ tb e args s v u, (limb_1_1.after args s (.returned v) u = true ∧ limb_1_2.after args s (.returned v) u = true ∧ True) → ReturnedEndW s (.returned v) u (Jvm.fieldLocs frame_1_writes args s ++ Jvm.arrayLocs frame_1_arrays args s ++ Jvm.staticLocs frame_1_statics s) 24 2176 → Post tb e args s (.returned v) u) :
    ArmFor flags0 classFile x code maxLocals ret World_1 tables_1 room_1 Calls_1 rest_1 Pre_1 Post := by
  intro l hfl _ _ p e ha hc hk s m args below hf hA hF happ hP
  obtain ⟨hcalls, hrest, hpre⟩ := hP
  obtain ⟨-, -, -, hnamed, -, -, -, hat⟩ := (Spec.applies_iff hf).mp happ
  obtain ⟨hg, hn⟩ := and_e (Cond.before_iff.mp (show (Jvm.Cond.and given_1 narrow_1).before args s = true from hpre))
  obtain ⟨g1, g2⟩ := and_e hg
  obtain ⟨g3, g4⟩ := and_e g2
  obtain ⟨g5, g6⟩ := and_e g4
  obtain ⟨g7, g8⟩ := and_e g6
  obtain ⟨w0, w1, w2, w3, rfl⟩ : ∃ w0 w1 w2 w3 : Value, args = #[w0, w1, w2, w3] := by
    have hs : args.size = 4 := by simpa [Cond.value, given_1] using g1
    obtain ⟨L⟩ := args
    match L, hs with
    | [w0, w1, w2, w3], _ => exact ⟨w0, w1, w2, w3, rfl⟩
  have hw := fun d (hd : d ∈ tables_1) => atoms_spec (ws := Jvm.Cond.code x code maxLocals ret :: tables_1) hat d (List.mem_cons_of_mem _ hd)
  have hfit : Fit s := fun {y c} hc i hi => by
    obtain ⟨ha, rfl⟩ := Array.getElem?_eq_some_iff.mp hc
    have q := List.all_eq_true.mp ((Array.all_eq_true_iff_forall_mem.mp hF) _ (Array.getElem_mem ha)) i (List.mem_range.mpr hi)
    simpa [Array.getElem?_eq_getElem hi] using q
  obtain ⟨hsets, hown0⟩ := atoms_of _ (rest_1_c_eq ▸ (show rest_1_c.before _ s = true from hrest))
  obtain ⟨i0, ei0⟩ := is_v g3
  obtain rfl : w0 = (.int i0) := Option.some.inj ei0
  obtain ⟨i1, ei1⟩ := is_v g5
  obtain rfl : w1 = (.int i1) := Option.some.inj ei1
  obtain ⟨i2, ei2⟩ := is_v g7
  obtain rfl : w2 = (.int i2) := Option.some.inj ei2
  obtain ⟨i3, ei3⟩ := is_v g8
  obtain rfl : w3 = (.int i3) := Option.some.inj ei3
  obtain ⟨cs, ec⟩ := is_v (Cond.before_iff.mp (hsets _ (List.mem_of_getElem? (i := 1) rfl)))
  have j1 := Sta.start ec (Or.inl (hsets _ (List.mem_of_getElem? (i := 0) rfl)))
  obtain ⟨sf, es, er⟩ := isR_v (Cond.before_iff.mp (hsets _ (List.mem_of_getElem? (i := 8) rfl)))
  have j2 := Sta.start es (Or.inl (hsets _ (List.mem_of_getElem? (i := 7) rfl)))
  have j3 := Sta.start (own_eqI (Cond.before_iff.mp (hsets _ (List.mem_of_getElem? (i := 12) rfl)))) (Or.inl (hsets _ (List.mem_of_getElem? (i := 11) rfl)))
  have j4 := Sta.start (own_eqI (Cond.before_iff.mp (hsets _ (List.mem_of_getElem? (i := 15) rfl)))) (Or.inl (hsets _ (List.mem_of_getElem? (i := 14) rfl)))
  have j5 := Sta.start (own_eqI (Cond.before_iff.mp (hsets _ (List.mem_of_getElem? (i := 18) rfl)))) (Or.inl (hsets _ (List.mem_of_getElem? (i := 17) rfl)))
  have J0 : own_J s s.heap := ⟨cs, sf, j1, j2, j3, j4, j5, own_neI (Cond.before_iff.mp (hsets _ (List.mem_of_getElem? (i := 2) rfl))) ec, er⟩
  have HC : CHv s consts_1 s.vm s.heap := CHv.start (own_EW hw) (fun p hp => hcalls.1 p hp) (hsets _ (List.mem_of_getElem? (i := 2) rfl)) (ow hw 16 rfl) (ow hw 3 rfl)
  obtain ⟨n, o, h1, h2, h3, v, L, rfl, ⟨hv, hK⟩, hq⟩ := rm0 l s _ hw tables_1 i0 i1 i2 i3 s.heap s.heap.size (Nat.le_refl _) J0 p e ha hc hk s m _ below hf ((Spec.applies_iff_loose hf).mp happ).1 ⟨rfl, State.Warmed39.refl s, rfl, HC⟩ trivial
  rw [R0, own_law] at hv
  subst hv
  refine ⟨n, _, h1, h2, h3, hpost _ _ _ _ _ _ ⟨Cond.after_iff.mpr rfl, Cond.after_iff.mpr (eq_i res_at (Term.int_eval (1)) rfl), trivial⟩ ⟨hq.1, hq.2.1, hq.2.2.1, (hq.2.2.2.sift fun y hy => ?_).mono (by decide) (by decide)⟩⟩
  exact Or.inr (hK y hy)
theorem main_1_1 : Claimed_1_1 := comes_1 fun _ _ _ _ _ _ h hF => ⟨h.1, hF⟩
theorem main_1_2 : Claimed_1_2 := comes_1 fun _ _ _ _ _ _ h hF => ⟨h.2.1, hF⟩
end Jvm.Pilot.@@N@@
namespace Jvm.Pilot.@@N@@
open Jvm Jvm.ClassFile Sem Op Lib Jvm.Free Jvm.Stand Jvm.Pilot.@@N@@.Jvm.D
/-! MADE BY PROGRAM (witnessworld.py) out of the Statement's table words and the real class files: 22 classes; the members and pool entries that the words name. The judged class is class 1, her method 2. -/
namespace start1
open Jvm.ClassFile
def u (s : String) : CpInfo := .utf8 (stringToUtf16 s)
/-- a pool by its gaps: so many unusable entries, then the entry; so many at the end -/
def gap : Nat → List CpInfo → List CpInfo
  | 0, r => r
  | n + 1, r => .unusable :: gap n r
def poolList (es : List (Nat × CpInfo)) (last : Nat) : List CpInfo := es.foldr (fun e r => gap e.1 (e.2 :: r)) (gap last [])
def pool (es : List (Nat × CpInfo)) (last : Nat) : Array CpInfo := ⟨poolList es last⟩
def fileOf (pool : Array CpInfo) (this : Nat) (attrs : Array Attribute := #[]) (ms : Array MethodInfo := #[]) (fl : Nat := 33) (sup : Nat := 0) (ifs : Array Nat := #[]) (fds : Array FieldInfo := #[]) : ClassFile where
  minorVersion := 0
  majorVersion := 65
  constantPool := pool
  accessFlags := fl
  thisClass := this
  superClass := sup
  interfaces := ifs
  fields := fds
  methods := ms
  attributes := attrs
def plain (name : String) (sup : Option ClassId) : Class where
  name := name
  kind := .ordinary
  loader := none
  accessFlags := 33
  super := sup
  interfaces := #[]
  cf := none
  fields := #[]
  methods := #[]
  instanceTypes := #[]
  staticTypes := #[]
  resolved := #[]
  callSites := []
  init := .initialized
  statics := none
  mirror := none

def pool0 : Array CpInfo := pool [(5, u "<init>"), (0, u "()V"), (1, .class_ 10), (1, u "java/lang/Object")] 113

def k0c0 : Code := { maxStack := 0, maxLocals := 1, code := object_method_1_code, exceptionTable := #[], attributes := #[] }
def k0m0 : Method := { name := "<init>", desc := "()V", sig := { parameters := [], returnType := none }, accessFlags := 1, code := some k0c0 }
/-- java/lang/Object -/
def k0 : Class := { plain "java/lang/Object" none with
  accessFlags := 33
  interfaces := #[]
  cf := some (fileOf pool0 8 #[] #[{ accessFlags := 1, nameIndex := 5, descriptorIndex := 6, attributes := #[] }] 33 0 #[] #[])
  fields := #[]
  methods := #[k0m0]
  instanceTypes := #[]
  staticTypes := #[]
  resolved := Array.replicate 124 none
  statics := none }

def pool1 : Array CpInfo := pool [(2, .class_ 4), (1, u "java/lang/Object"), (0, u "<init>"), (0, u "()V"), (0, .integer 65535), (0, .class_ 9), (0, u "java/lang/String"), (0, .methodref 8 11), (0, .nameAndType 5 12), (0, u "([C)V"), (0, .methodref 14 15), (0, .class_ 16), (0, .nameAndType 17 18), (0, u "com/example/vaultwright/vaultwright/http/RequestHeadIsTokenPinLaw"), (0, u "tchar"), (0, u "(C)Z"), (0, .methodref 20 21), (0, .class_ 22), (0, .nameAndType 23 24), (0, u "com/example/vaultwright/vaultwright/http/RequestHead"), (0, u "isToken"), (0, u "(Ljava/lang/String;)Z"), (3, u "law"), (0, u "(IIII)Z")] 4

def k1m0 : Method := { name := "<init>", desc := "()V", sig := { parameters := [], returnType := none }, accessFlags := 1, code := none }
def k1c1 : Code := { maxStack := 2, maxLocals := 1, code := method_2_code, exceptionTable := #[], attributes := #[] }
def k1m1 : Method := { name := "tchar", desc := "(C)Z", sig := { parameters := [.char], returnType := some .boolean }, accessFlags := 10, code := some k1c1 }
def k1c2 : Code := { maxStack := 4, maxLocals := 11, code := code, exceptionTable := #[], attributes := #[] }
def k1m2 : Method := { name := "law", desc := "(IIII)Z", sig := { parameters := [.int, .int, .int, .int], returnType := some .boolean }, accessFlags := 9, code := some k1c2 }
/-- com/example/vaultwright/vaultwright/http/RequestHeadIsTokenPinLaw -/
def k1 : Class := { plain "com/example/vaultwright/vaultwright/http/RequestHeadIsTokenPinLaw" (some 0) with
  accessFlags := 49
  interfaces := #[]
  cf := some (fileOf pool1 14 #[] #[{ accessFlags := 1, nameIndex := 5, descriptorIndex := 6, attributes := #[] }, { accessFlags := 10, nameIndex := 17, descriptorIndex := 18, attributes := #[] }, { accessFlags := 9, nameIndex := 28, descriptorIndex := 29, attributes := #[] }] 49 2 #[] #[])
  fields := #[]
  methods := #[k1m0, k1m1, k1m2]
  instanceTypes := #[]
  staticTypes := #[]
  resolved := Array.replicate 34 none
  statics := none }

def pool2 : Array CpInfo := pool [(1, .class_ 2), (0, u "java/io/Serializable"), (0, .class_ 4), (0, u "java/lang/Object")] 2

/-- java/io/Serializable -/
def k2 : Class := { plain "java/io/Serializable" (some 0) with
  accessFlags := 1537
  interfaces := #[]
  cf := some (fileOf pool2 1 #[] #[] 1537 3 #[] #[])
  fields := #[]
  methods := #[]
  instanceTypes := #[]
  staticTypes := #[]
  resolved := Array.replicate 7 none
  statics := none }

def pool3 : Array CpInfo := pool [(1, .class_ 2), (0, u "java/lang/Comparable"), (0, .class_ 4), (0, u "java/lang/Object")] 7

/-- java/lang/Comparable -/
def k3 : Class := { plain "java/lang/Comparable" (some 0) with
  accessFlags := 1537
  interfaces := #[]
  cf := some (fileOf pool3 1 #[] #[] 1537 3 #[] #[])
  fields := #[]
  methods := #[]
  instanceTypes := #[]
  staticTypes := #[]
  resolved := Array.replicate 12 none
  statics := none }

def pool4 : Array CpInfo := pool [(2, .class_ 4), (1, u "java/lang/CharSequence"), (42, .class_ 48), (0, u "java/lang/CharSequence$1CodePointIterator"), (10, .class_ 60), (0, u "java/lang/CharSequence$1CharIterator"), (5, .class_ 67), (0, u "java/lang/Object")] 63

/-- java/lang/CharSequence -/
def k4 : Class := { plain "java/lang/CharSequence" (some 0) with
  accessFlags := 1537
  interfaces := #[]
  cf := some (fileOf pool4 2 #[.nestMembers #[47, 59]] #[] 1537 66 #[] #[])
  fields := #[]
  methods := #[]
  instanceTypes := #[]
  staticTypes := #[]
  resolved := Array.replicate 131 none
  statics := none }

def pool5 : Array CpInfo := pool [(1, .class_ 2), (0, u "java/lang/constant/Constable"), (0, .class_ 4), (0, u "java/lang/Object")] 6

/-- java/lang/constant/Constable -/
def k5 : Class := { plain "java/lang/constant/Constable" (some 0) with
  accessFlags := 1537
  interfaces := #[]
  cf := some (fileOf pool5 1 #[] #[] 1537 3 #[] #[])
  fields := #[]
  methods := #[]
  instanceTypes := #[]
  staticTypes := #[]
  resolved := Array.replicate 11 none
  statics := none }

def pool6 : Array CpInfo := pool [(1, .class_ 2), (0, u "java/lang/constant/ConstantDesc"), (0, .class_ 4), (0, u "java/lang/Object")] 32

/-- java/lang/constant/ConstantDesc -/
def k6 : Class := { plain "java/lang/constant/ConstantDesc" (some 0) with
  accessFlags := 1537
  interfaces := #[]
  cf := some (fileOf pool6 1 #[] #[] 1537 3 #[] #[])
  fields := #[]
  methods := #[]
  instanceTypes := #[]
  staticTypes := #[]
  resolved := Array.replicate 37 none
  statics := none }

def pool7 : Array CpInfo := pool [(1, .methodref 2 3), (0, .class_ 4), (0, .nameAndType 5 6), (0, u "java/lang/Object"), (0, u "<init>"), (0, u "()V"), (0, .string 8), (0, u ""), (0, .fieldref 10 11), (0, .class_ 12), (0, .nameAndType 13 14), (0, u "java/lang/String"), (0, u "value"), (0, u "[B"), (0, .fieldref 10 16), (0, .nameAndType 17 18), (0, u "coder"), (0, u "B"), (2, u "hash"), (0, u "I"), (2, u "hashIsZero"), (0, u "Z"), (0, .methodref 10 28), (0, .nameAndType 5 29), (0, u "([CIILjava/lang/Void;)V"), (8, .fieldref 10 39), (0, .nameAndType 40 26), (0, u "COMPACT_STRINGS"), (1, .class_ 44), (1, u "java/lang/StringUTF16"), (0, u "compress"), (1, .methodref 42 48), (0, .nameAndType 49 50), (0, u "coderFromArrayLen"), (0, u "([BI)B"), (56, .class_ 109), (1, u "java/lang/StringLatin1"), (32, u "()Z"), (34, .methodref 42 178), (0, .nameAndType 45 179), (0, u "([CII)[B"), (154, u "()I"), (0, .methodref 10 336), (0, .nameAndType 17 337), (0, u "()B"), (25, u "([BI)C"), (27, u "(II)V"), (35, u "(I)C"), (64, .methodref 10 493), (0, .nameAndType 494 142), (0, u "isLatin1"), (0, .methodref 107 496), (0, .nameAndType 497 363), (0, u "charAt"), (0, .methodref 42 496), (2, u "checkIndex"), (3, .methodref 10 506), (0, .nameAndType 507 334), (0, u "length"), (67, .class_ 576), (0, u "java/lang/CharSequence"), (22, u "CASE_INSENSITIVE_ORDER"), (0, u "Ljava/util/Comparator;"), (32, .methodref 10 634), (0, .nameAndType 635 636), (0, u "indexOf"), (0, u "(II)I"), (0, .methodref 107 638), (0, .nameAndType 635 639), (0, u "([BIII)I"), (52, u "isEmpty"), (72, u "(I)I"), (244, u "([C)V"), (42, .fieldref 1054 1055), (0, .class_ 1056), (0, .nameAndType 1057 1058), (0, u "jdk/internal/util/Preconditions"), (0, u "SIOOBE_FORMATTER"), (0, u "Ljava/util/function/BiFunction;"), (0, .methodref 1054 1060), (0, .nameAndType 501 1061), (0, u "(IILjava/util/function/BiFunction;)I"), (39, u "serialPersistentFields"), (0, u "[Ljava/io/ObjectStreamField;"), (0, .class_ 1104), (0, u "java/lang/String$CaseInsensitiveComparator"), (1, .class_ 1107), (0, u "java/io/Serializable"), (0, .class_ 1109), (0, u "java/lang/Comparable"), (0, .class_ 1111), (0, u "java/lang/constant/Constable"), (0, .class_ 1113), (0, u "java/lang/constant/ConstantDesc"), (2, u "serialVersionUID"), (0, u "J"), (3, u "REPL"), (0, u "C"), (2, u "LATIN1"), (1, u "UTF16")] 323

def k7m0 : Method := { name := "<init>", desc := "()V", sig := { parameters := [], returnType := none }, accessFlags := 1, code := none }
def k7c1 : Code := { maxStack := 5, maxLocals := 2, code := jdk_42_method_3_code, exceptionTable := #[], attributes := #[] }
def k7m1 : Method := { name := "<init>", desc := "([C)V", sig := { parameters := [(.array .char)], returnType := none }, accessFlags := 1, code := some k7c1 }
def k7c2 : Code := { maxStack := 2, maxLocals := 1, code := jdk_42_method_54_code, exceptionTable := #[], attributes := #[] }
def k7m2 : Method := { name := "length", desc := "()I", sig := { parameters := [], returnType := some .int }, accessFlags := 1, code := some k7c2 }
def k7c3 : Code := { maxStack := 1, maxLocals := 1, code := jdk_42_method_55_code, exceptionTable := #[], attributes := #[] }
def k7m3 : Method := { name := "isEmpty", desc := "()Z", sig := { parameters := [], returnType := some .boolean }, accessFlags := 1, code := some k7c3 }
def k7c4 : Code := { maxStack := 2, maxLocals := 2, code := jdk_42_method_56_code, exceptionTable := #[], attributes := #[] }
def k7m4 : Method := { name := "charAt", desc := "(I)C", sig := { parameters := [.int], returnType := some .char }, accessFlags := 1, code := some k7c4 }
def k7c5 : Code := { maxStack := 3, maxLocals := 2, code := jdk_42_method_79_code, exceptionTable := #[], attributes := #[] }
def k7m5 : Method := { name := "indexOf", desc := "(I)I", sig := { parameters := [.int], returnType := some .int }, accessFlags := 1, code := some k7c5 }
def k7c6 : Code := { maxStack := 4, maxLocals := 3, code := jdk_42_method_80_code, exceptionTable := #[], attributes := #[] }
def k7m6 : Method := { name := "indexOf", desc := "(II)I", sig := { parameters := [.int, .int], returnType := some .int }, accessFlags := 1, code := some k7c6 }
def k7c7 : Code := { maxStack := 4, maxLocals := 6, code := jdk_42_method_149_code, exceptionTable := #[], attributes := #[] }
def k7m7 : Method := { name := "<init>", desc := "([CIILjava/lang/Void;)V", sig := { parameters := [(.array .char), .int, .int, (.object "java/lang/Void")], returnType := none }, accessFlags := 2, code := some k7c7 }
def k7c8 : Code := { maxStack := 1, maxLocals := 1, code := jdk_42_method_152_code, exceptionTable := #[], attributes := #[] }
def k7m8 : Method := { name := "coder", desc := "()B", sig := { parameters := [], returnType := some .byte }, accessFlags := 0, code := some k7c8 }
def k7c9 : Code := { maxStack := 1, maxLocals := 1, code := jdk_42_method_154_code, exceptionTable := #[], attributes := #[] }
def k7m9 : Method := { name := "isLatin1", desc := "()Z", sig := { parameters := [], returnType := some .boolean }, accessFlags := 0, code := some k7c9 }
def k7c10 : Code := { maxStack := 3, maxLocals := 2, code := jdk_42_method_155_code, exceptionTable := #[], attributes := #[] }
def k7m10 : Method := { name := "checkIndex", desc := "(II)V", sig := { parameters := [.int, .int], returnType := none }, accessFlags := 8, code := some k7c10 }
/-- java/lang/String -/
def k7 : Class := { plain "java/lang/String" (some 0) with
  accessFlags := 49
  interfaces := #[2, 3, 4, 5, 6]
  cf := some (fileOf pool7 10 #[.nestMembers #[1103]] #[{ accessFlags := 1, nameIndex := 5, descriptorIndex := 6, attributes := #[] }, { accessFlags := 1, nameIndex := 5, descriptorIndex := 1010, attributes := #[] }, { accessFlags := 1, nameIndex := 507, descriptorIndex := 334, attributes := #[] }, { accessFlags := 1, nameIndex := 692, descriptorIndex := 142, attributes := #[] }, { accessFlags := 1, nameIndex := 497, descriptorIndex := 427, attributes := #[] }, { accessFlags := 1, nameIndex := 635, descriptorIndex := 765, attributes := #[] }, { accessFlags := 1, nameIndex := 635, descriptorIndex := 636, attributes := #[] }, { accessFlags := 2, nameIndex := 5, descriptorIndex := 29, attributes := #[] }, { accessFlags := 0, nameIndex := 17, descriptorIndex := 337, attributes := #[] }, { accessFlags := 0, nameIndex := 494, descriptorIndex := 142, attributes := #[] }, { accessFlags := 8, nameIndex := 501, descriptorIndex := 391, attributes := #[] }] 49 2 #[1106, 1108, 575, 1110, 1112] #[{ accessFlags := 18, nameIndex := 13, descriptorIndex := 14, attributes := #[] }, { accessFlags := 18, nameIndex := 17, descriptorIndex := 18, attributes := #[] }, { accessFlags := 2, nameIndex := 21, descriptorIndex := 22, attributes := #[] }, { accessFlags := 2, nameIndex := 25, descriptorIndex := 26, attributes := #[] }, { accessFlags := 26, nameIndex := 1116, descriptorIndex := 1117, attributes := #[] }, { accessFlags := 24, nameIndex := 40, descriptorIndex := 26, attributes := #[] }, { accessFlags := 26, nameIndex := 1101, descriptorIndex := 1102, attributes := #[] }, { accessFlags := 26, nameIndex := 1121, descriptorIndex := 1122, attributes := #[] }, { accessFlags := 25, nameIndex := 599, descriptorIndex := 600, attributes := #[] }, { accessFlags := 24, nameIndex := 1125, descriptorIndex := 18, attributes := #[] }, { accessFlags := 24, nameIndex := 1127, descriptorIndex := 18, attributes := #[] }])
  fields := #[{ name := "value", type := (.array .byte), accessFlags := 18, slot := 0, constantValue := 0 }, { name := "coder", type := .byte, accessFlags := 18, slot := 1, constantValue := 0 }, { name := "hash", type := .int, accessFlags := 2, slot := 2, constantValue := 0 }, { name := "hashIsZero", type := .boolean, accessFlags := 2, slot := 3, constantValue := 0 }, { name := "serialVersionUID", type := .long, accessFlags := 26, slot := 0, constantValue := 0 }, { name := "COMPACT_STRINGS", type := .boolean, accessFlags := 24, slot := 1, constantValue := 0 }, { name := "serialPersistentFields", type := (.array (.object "java/io/ObjectStreamField")), accessFlags := 26, slot := 2, constantValue := 0 }, { name := "REPL", type := .char, accessFlags := 26, slot := 3, constantValue := 0 }, { name := "CASE_INSENSITIVE_ORDER", type := (.object "java/util/Comparator"), accessFlags := 25, slot := 4, constantValue := 0 }, { name := "LATIN1", type := .byte, accessFlags := 24, slot := 5, constantValue := 0 }, { name := "UTF16", type := .byte, accessFlags := 24, slot := 6, constantValue := 0 }]
  methods := #[k7m0, k7m1, k7m2, k7m3, k7m4, k7m5, k7m6, k7m7, k7m8, k7m9, k7m10]
  instanceTypes := #[(.array .byte), .byte, .int, .boolean]
  staticTypes := #[.long, .boolean, (.array (.object "java/io/ObjectStreamField")), .char, (.object "java/util/Comparator"), .byte, .byte]
  resolved := Array.replicate 1451 none
  statics := some 0 }

def pool8 : Array CpInfo := pool [(2, .class_ 4), (1, u "java/lang/Object"), (0, u "<init>"), (0, u "()V"), (0, .class_ 8), (0, u "java/lang/Record")] 13

def k8m0 : Method := { name := "<init>", desc := "()V", sig := { parameters := [], returnType := none }, accessFlags := 4, code := none }
/-- java/lang/Record -/
def k8 : Class := { plain "java/lang/Record" (some 0) with
  accessFlags := 1057
  interfaces := #[]
  cf := some (fileOf pool8 7 #[] #[{ accessFlags := 4, nameIndex := 5, descriptorIndex := 6, attributes := #[] }] 1057 2 #[] #[])
  fields := #[]
  methods := #[k8m0]
  instanceTypes := #[]
  staticTypes := #[]
  resolved := Array.replicate 22 none
  statics := none }

def pool9 : Array CpInfo := pool [(2, .class_ 4), (1, u "java/lang/Record"), (3, .class_ 10), (1, u "com/example/vaultwright/vaultwright/http/RequestHead"), (0, u "method"), (0, u "Ljava/lang/String;"), (2, u "target"), (0, u "Ljava/net/URI;"), (2, u "headers"), (0, u "Lcom/example/vaultwright/vaultwright/http/HttpHeaders;"), (2, u "contentLength"), (0, u "J"), (2, u "chunked"), (0, u "Z"), (2, u "keepAlive"), (2, u "expectsContinue"), (6, .nameAndType 43 44), (1, u "isEmpty"), (0, u "()Z"), (10, .class_ 56), (0, u "java/lang/String"), (10, u "()I"), (62, u "(Ljava/lang/String;)Z"), (10, .methodref 55 41), (0, .methodref 55 143), (0, .nameAndType 144 67), (0, u "length"), (0, .methodref 55 146), (0, .nameAndType 147 148), (0, u "charAt"), (0, u "(I)C"), (0, .string 150), (0, u "!#$%&'*+-.^_`|~"), (0, .methodref 55 152), (0, .nameAndType 153 154), (0, u "indexOf"), (0, u "(I)I"), (17, u "isToken"), (157, u "TOKEN_SYMBOLS"), (1, u "MAX_LENGTH_DIGITS"), (0, u "I")] 77

def k9c0 : Code := { maxStack := 2, maxLocals := 4, code := prog_34_method_4_code, exceptionTable := #[], attributes := #[] }
def k9m0 : Method := { name := "isToken", desc := "(Ljava/lang/String;)Z", sig := { parameters := [(.object "java/lang/String")], returnType := some .boolean }, accessFlags := 8, code := some k9c0 }
/-- com/example/vaultwright/vaultwright/http/RequestHead -/
def k9 : Class := { plain "com/example/vaultwright/vaultwright/http/RequestHead" (some 8) with
  accessFlags := 48
  interfaces := #[]
  cf := some (fileOf pool9 8 #[] #[{ accessFlags := 8, nameIndex := 172, descriptorIndex := 130, attributes := #[] }] 48 2 #[] #[{ accessFlags := 18, nameIndex := 11, descriptorIndex := 12, attributes := #[] }, { accessFlags := 18, nameIndex := 15, descriptorIndex := 16, attributes := #[] }, { accessFlags := 18, nameIndex := 19, descriptorIndex := 20, attributes := #[] }, { accessFlags := 18, nameIndex := 23, descriptorIndex := 24, attributes := #[] }, { accessFlags := 18, nameIndex := 27, descriptorIndex := 28, attributes := #[] }, { accessFlags := 18, nameIndex := 31, descriptorIndex := 28, attributes := #[] }, { accessFlags := 18, nameIndex := 34, descriptorIndex := 28, attributes := #[] }, { accessFlags := 26, nameIndex := 330, descriptorIndex := 12, attributes := #[] }, { accessFlags := 26, nameIndex := 332, descriptorIndex := 333, attributes := #[] }])
  fields := #[{ name := "method", type := (.object "java/lang/String"), accessFlags := 18, slot := 0, constantValue := 0 }, { name := "target", type := (.object "java/net/URI"), accessFlags := 18, slot := 1, constantValue := 0 }, { name := "headers", type := (.object "com/example/vaultwright/vaultwright/http/HttpHeaders"), accessFlags := 18, slot := 2, constantValue := 0 }, { name := "contentLength", type := .long, accessFlags := 18, slot := 3, constantValue := 0 }, { name := "chunked", type := .boolean, accessFlags := 18, slot := 4, constantValue := 0 }, { name := "keepAlive", type := .boolean, accessFlags := 18, slot := 5, constantValue := 0 }, { name := "expectsContinue", type := .boolean, accessFlags := 18, slot := 6, constantValue := 0 }, { name := "TOKEN_SYMBOLS", type := (.object "java/lang/String"), accessFlags := 26, slot := 0, constantValue := 0 }, { name := "MAX_LENGTH_DIGITS", type := .int, accessFlags := 26, slot := 1, constantValue := 0 }]
  methods := #[k9m0]
  instanceTypes := #[(.object "java/lang/String"), (.object "java/net/URI"), (.object "com/example/vaultwright/vaultwright/http/HttpHeaders"), .long, .boolean, .boolean, .boolean]
  staticTypes := #[(.object "java/lang/String"), .int]
  resolved := Array.replicate 411 none
  statics := none }

def pool10 : Array CpInfo := pool [(3, .class_ 4), (0, u "java/lang/String"), (1, .class_ 8), (1, u "java/lang/Object"), (0, u "<init>"), (0, u "()V"), (0, .methodref 12 13), (0, .class_ 14), (0, .nameAndType 15 16), (0, u "java/lang/StringUTF16"), (0, u "newBytesLength"), (0, u "(I)I"), (3, .integer 1073741823), (23, .fieldref 12 45), (0, .nameAndType 46 47), (0, u "$assertionsDisabled"), (0, u "Z"), (0, .methodref 12 49), (0, .nameAndType 50 51), (0, u "length"), (0, u "([B)I"), (7, .fieldref 12 60), (0, .nameAndType 61 62), (0, u "HI_BYTE_SHIFT"), (0, u "I"), (0, .fieldref 12 64), (0, .nameAndType 65 62), (0, u "LO_BYTE_SHIFT"), (1, .methodref 12 68), (0, .nameAndType 69 70), (0, u "checkIndex"), (0, u "(I[B)V"), (0, .methodref 12 72), (0, .nameAndType 73 74), (0, u "getChar"), (0, u "([BI)C"), (32, .methodref 12 108), (0, .nameAndType 109 110), (0, u "newBytesFor"), (0, u "(I)[B"), (0, .methodref 12 112), (0, .nameAndType 113 114), (0, u "putChar"), (0, u "([BII)V"), (0, .methodref 12 116), (0, .nameAndType 117 118), (0, u "compress"), (0, u "([CI[BII)I"), (0, .methodref 12 120), (0, .nameAndType 121 122), (0, u "toBytes"), (0, u "([CII)[B"), (138, u "coderFromArrayLen"), (0, u "([BI)B"), (106, .class_ 371), (1, u "java/lang/StringUTF16$LinesSpliterator"), (20, u "charAt"), (21, .methodref 3 415), (0, .nameAndType 69 416), (0, u "(II)V"), (13, u "MAX_LENGTH"), (196, .class_ 628), (0, u "java/lang/StringUTF16$CodePointsSpliterator"), (0, .class_ 630), (0, u "java/lang/StringUTF16$CharsSpliterator")] 4

def k10m0 : Method := { name := "<init>", desc := "()V", sig := { parameters := [], returnType := none }, accessFlags := 0, code := none }
def k10c1 : Code := { maxStack := 1, maxLocals := 1, code := jdk_52_method_2_code, exceptionTable := #[], attributes := #[] }
def k10m1 : Method := { name := "newBytesFor", desc := "(I)[B", sig := { parameters := [.int], returnType := some (.array .byte) }, accessFlags := 9, code := some k10c1 }
def k10c2 : Code := { maxStack := 4, maxLocals := 1, code := jdk_52_method_3_code, exceptionTable := #[], attributes := #[] }
def k10m2 : Method := { name := "newBytesLength", desc := "(I)I", sig := { parameters := [.int], returnType := some .int }, accessFlags := 9, code := some k10c2 }
def k10c3 : Code := { maxStack := 4, maxLocals := 3, code := jdk_52_method_4_code, exceptionTable := #[], attributes := #[] }
def k10m3 : Method := { name := "putChar", desc := "([BII)V", sig := { parameters := [(.array .byte), .int, .int], returnType := none }, accessFlags := 8, code := some k10c3 }
def k10c4 : Code := { maxStack := 3, maxLocals := 2, code := jdk_52_method_5_code, exceptionTable := #[], attributes := #[] }
def k10m4 : Method := { name := "getChar", desc := "([BI)C", sig := { parameters := [(.array .byte), .int], returnType := some .char }, accessFlags := 8, code := some k10c4 }
def k10c5 : Code := { maxStack := 2, maxLocals := 1, code := jdk_52_method_6_code, exceptionTable := #[], attributes := #[] }
def k10m5 : Method := { name := "length", desc := "([B)I", sig := { parameters := [(.array .byte)], returnType := some .int }, accessFlags := 9, code := some k10c5 }
def k10c6 : Code := { maxStack := 4, maxLocals := 5, code := jdk_52_method_14_code, exceptionTable := #[], attributes := #[] }
def k10m6 : Method := { name := "toBytes", desc := "([CII)[B", sig := { parameters := [(.array .char), .int, .int], returnType := some (.array .byte) }, accessFlags := 9, code := some k10c6 }
def k10c7 : Code := { maxStack := 2, maxLocals := 2, code := jdk_52_method_15_code, exceptionTable := #[], attributes := #[] }
def k10m7 : Method := { name := "coderFromArrayLen", desc := "([BI)B", sig := { parameters := [(.array .byte), .int], returnType := some .byte }, accessFlags := 8, code := some k10c7 }
def k10c8 : Code := { maxStack := 5, maxLocals := 6, code := jdk_52_method_16_code, exceptionTable := #[], attributes := #[] }
def k10m8 : Method := { name := "compress", desc := "([CII)[B", sig := { parameters := [(.array .char), .int, .int], returnType := some (.array .byte) }, accessFlags := 9, code := some k10c8 }
def k10c9 : Code := { maxStack := 3, maxLocals := 7, code := jdk_52_method_21_code, exceptionTable := #[], attributes := #[] }
def k10m9 : Method := { name := "compress", desc := "([CI[BII)I", sig := { parameters := [(.array .char), .int, (.array .byte), .int, .int], returnType := some .int }, accessFlags := 9, code := some k10c9 }
def k10c10 : Code := { maxStack := 2, maxLocals := 2, code := jdk_52_method_83_code, exceptionTable := #[], attributes := #[] }
def k10m10 : Method := { name := "charAt", desc := "([BI)C", sig := { parameters := [(.array .byte), .int], returnType := some .char }, accessFlags := 9, code := some k10c10 }
def k10c11 : Code := { maxStack := 2, maxLocals := 2, code := jdk_52_method_91_code, exceptionTable := #[], attributes := #[] }
def k10m11 : Method := { name := "checkIndex", desc := "(I[B)V", sig := { parameters := [.int, (.array .byte)], returnType := none }, accessFlags := 9, code := some k10c11 }
/-- java/lang/StringUTF16 -/
def k10 : Class := { plain "java/lang/StringUTF16" (some 0) with
  accessFlags := 48
  interfaces := #[]
  cf := some (fileOf pool10 12 #[.nestMembers #[627, 629, 369]] #[{ accessFlags := 0, nameIndex := 9, descriptorIndex := 10, attributes := #[] }, { accessFlags := 9, nameIndex := 109, descriptorIndex := 110, attributes := #[] }, { accessFlags := 9, nameIndex := 15, descriptorIndex := 16, attributes := #[] }, { accessFlags := 8, nameIndex := 113, descriptorIndex := 114, attributes := #[] }, { accessFlags := 8, nameIndex := 73, descriptorIndex := 74, attributes := #[] }, { accessFlags := 9, nameIndex := 50, descriptorIndex := 51, attributes := #[] }, { accessFlags := 9, nameIndex := 121, descriptorIndex := 122, attributes := #[] }, { accessFlags := 8, nameIndex := 261, descriptorIndex := 262, attributes := #[] }, { accessFlags := 9, nameIndex := 117, descriptorIndex := 122, attributes := #[] }, { accessFlags := 9, nameIndex := 117, descriptorIndex := 118, attributes := #[] }, { accessFlags := 9, nameIndex := 392, descriptorIndex := 74, attributes := #[] }, { accessFlags := 9, nameIndex := 69, descriptorIndex := 70, attributes := #[] }] 48 6 #[] #[{ accessFlags := 26, nameIndex := 61, descriptorIndex := 62, attributes := #[] }, { accessFlags := 26, nameIndex := 65, descriptorIndex := 62, attributes := #[] }, { accessFlags := 24, nameIndex := 430, descriptorIndex := 62, attributes := #[] }, { accessFlags := 4120, nameIndex := 46, descriptorIndex := 47, attributes := #[] }])
  fields := #[{ name := "HI_BYTE_SHIFT", type := .int, accessFlags := 26, slot := 0, constantValue := 0 }, { name := "LO_BYTE_SHIFT", type := .int, accessFlags := 26, slot := 1, constantValue := 0 }, { name := "MAX_LENGTH", type := .int, accessFlags := 24, slot := 2, constantValue := 0 }, { name := "$assertionsDisabled", type := .boolean, accessFlags := 4120, slot := 3, constantValue := 0 }]
  methods := #[k10m0, k10m1, k10m2, k10m3, k10m4, k10m5, k10m6, k10m7, k10m8, k10m9, k10m10, k10m11]
  instanceTypes := #[]
  staticTypes := #[.int, .int, .int, .boolean]
  resolved := Array.replicate 635 none
  statics := some 1 }

def pool11 : Array CpInfo := pool [(1, .class_ 2), (0, u "java/lang/String"), (1, .class_ 6), (1, u "java/lang/Object"), (0, u "<init>"), (0, u "()V"), (0, .methodref 1 10), (0, .nameAndType 11 12), (0, u "checkIndex"), (0, u "(II)V"), (1, .class_ 16), (1, u "java/lang/StringLatin1"), (21, .methodref 39 40), (0, .class_ 41), (0, .nameAndType 42 43), (0, u "java/lang/Math"), (0, u "min"), (0, u "(II)I"), (9, u "([BI)C"), (34, .methodref 14 89), (0, .nameAndType 90 91), (0, u "canEncode"), (0, u "(I)Z"), (0, .methodref 39 93), (0, .nameAndType 94 43), (0, u "max"), (0, .methodref 14 96), (0, .nameAndType 97 98), (0, u "indexOfChar"), (0, u "([BIII)I"), (2, u "indexOf"), (19, u "$assertionsDisabled"), (0, u "Z"), (98, .class_ 223), (1, u "java/lang/StringLatin1$LinesSpliterator"), (28, u "charAt"), (137, .class_ 391), (0, u "java/lang/StringLatin1$CharsSpliterator")] 3

def k11m0 : Method := { name := "<init>", desc := "()V", sig := { parameters := [], returnType := none }, accessFlags := 0, code := none }
def k11c1 : Code := { maxStack := 2, maxLocals := 2, code := jdk_43_method_2_code, exceptionTable := #[], attributes := #[] }
def k11m1 : Method := { name := "charAt", desc := "([BI)C", sig := { parameters := [(.array .byte), .int], returnType := some .char }, accessFlags := 9, code := some k11c1 }
def k11c2 : Code := { maxStack := 2, maxLocals := 1, code := jdk_43_method_4_code, exceptionTable := #[], attributes := #[] }
def k11m2 : Method := { name := "canEncode", desc := "(I)Z", sig := { parameters := [.int], returnType := some .boolean }, accessFlags := 9, code := some k11c2 }
def k11c3 : Code := { maxStack := 4, maxLocals := 4, code := jdk_43_method_22_code, exceptionTable := #[], attributes := #[] }
def k11m3 : Method := { name := "indexOf", desc := "([BIII)I", sig := { parameters := [(.array .byte), .int, .int, .int], returnType := some .int }, accessFlags := 9, code := some k11c3 }
def k11c4 : Code := { maxStack := 2, maxLocals := 6, code := jdk_43_method_23_code, exceptionTable := #[], attributes := #[] }
def k11m4 : Method := { name := "indexOfChar", desc := "([BIII)I", sig := { parameters := [(.array .byte), .int, .int, .int], returnType := some .int }, accessFlags := 10, code := some k11c4 }
/-- java/lang/StringLatin1 -/
def k11 : Class := { plain "java/lang/StringLatin1" (some 0) with
  accessFlags := 48
  interfaces := #[]
  cf := some (fileOf pool11 14 #[.nestMembers #[390, 221]] #[{ accessFlags := 0, nameIndex := 7, descriptorIndex := 8, attributes := #[] }, { accessFlags := 9, nameIndex := 252, descriptorIndex := 53, attributes := #[] }, { accessFlags := 9, nameIndex := 90, descriptorIndex := 91, attributes := #[] }, { accessFlags := 9, nameIndex := 101, descriptorIndex := 98, attributes := #[] }, { accessFlags := 10, nameIndex := 97, descriptorIndex := 98, attributes := #[] }] 48 4 #[] #[{ accessFlags := 4120, nameIndex := 121, descriptorIndex := 122, attributes := #[] }])
  fields := #[{ name := "$assertionsDisabled", type := .boolean, accessFlags := 4120, slot := 0, constantValue := 0 }]
  methods := #[k11m0, k11m1, k11m2, k11m3, k11m4]
  instanceTypes := #[]
  staticTypes := #[.boolean]
  resolved := Array.replicate 395 none
  statics := none }

def pool12 : Array CpInfo := pool [(2, .class_ 4), (1, u "java/lang/Object"), (0, u "<init>"), (0, u "()V"), (17, .class_ 26), (1, u "jdk/internal/util/Preconditions"), (6, u "checkIndex"), (21, .class_ 56), (0, u "jdk/internal/util/Preconditions$4"), (57, .class_ 115), (0, u "jdk/internal/util/Preconditions$1"), (7, u "SIOOBE_FORMATTER"), (0, u "Ljava/util/function/BiFunction;"), (0, .class_ 126), (0, u "jdk/internal/util/Preconditions$2"), (3, u "AIOOBE_FORMATTER"), (0, .class_ 132), (0, u "jdk/internal/util/Preconditions$3"), (3, u "IOOBE_FORMATTER"), (41, u "(IILjava/util/function/BiFunction;)I")] 15

def k12m0 : Method := { name := "<init>", desc := "()V", sig := { parameters := [], returnType := none }, accessFlags := 1, code := none }
def k12c1 : Code := { maxStack := 3, maxLocals := 3, code := jdk_41_method_11_code, exceptionTable := #[], attributes := #[] }
def k12m1 : Method := { name := "checkIndex", desc := "(IILjava/util/function/BiFunction;)I", sig := { parameters := [.int, .int, (.object "java/util/function/BiFunction")], returnType := some .int }, accessFlags := 9, code := some k12c1 }
/-- jdk/internal/util/Preconditions -/
def k12 : Class := { plain "jdk/internal/util/Preconditions" (some 0) with
  accessFlags := 33
  interfaces := #[]
  cf := some (fileOf pool12 24 #[.nestMembers #[55, 131, 125, 114]] #[{ accessFlags := 1, nameIndex := 5, descriptorIndex := 6, attributes := #[] }, { accessFlags := 9, nameIndex := 33, descriptorIndex := 178, attributes := #[] }] 33 2 #[] #[{ accessFlags := 25, nameIndex := 123, descriptorIndex := 124, attributes := #[] }, { accessFlags := 25, nameIndex := 130, descriptorIndex := 124, attributes := #[] }, { accessFlags := 25, nameIndex := 136, descriptorIndex := 124, attributes := #[] }])
  fields := #[{ name := "SIOOBE_FORMATTER", type := (.object "java/util/function/BiFunction"), accessFlags := 25, slot := 0, constantValue := 0 }, { name := "AIOOBE_FORMATTER", type := (.object "java/util/function/BiFunction"), accessFlags := 25, slot := 1, constantValue := 0 }, { name := "IOOBE_FORMATTER", type := (.object "java/util/function/BiFunction"), accessFlags := 25, slot := 2, constantValue := 0 }]
  methods := #[k12m0, k12m1]
  instanceTypes := #[]
  staticTypes := #[(.object "java/util/function/BiFunction"), (.object "java/util/function/BiFunction"), (.object "java/util/function/BiFunction")]
  resolved := Array.replicate 194 none
  statics := some 2 }

def pool13 : Array CpInfo := pool [(1, .class_ 2), (0, u "java/lang/Math"), (1, .class_ 6), (1, u "java/lang/Object"), (0, u "<init>"), (0, u "()V"), (89, .class_ 100), (1, u "java/lang/Math$RandomNumberGeneratorHolder"), (71, u "negativeZeroFloatBits"), (0, u "J"), (2, u "negativeZeroDoubleBits"), (21, u "max"), (2, u "min"), (43, u "$assertionsDisabled"), (0, u "Z"), (88, u "(II)I"), (2, u "twoToTheDoubleScaleDown"), (0, u "D"), (4, u "twoToTheDoubleScaleUp"), (9, u "E"), (3, u "PI"), (2, u "TAU"), (2, u "DEGREES_TO_RADIANS"), (0, u "RADIANS_TO_DEGREES")] 94

def k13m0 : Method := { name := "<init>", desc := "()V", sig := { parameters := [], returnType := none }, accessFlags := 2, code := none }
def k13c1 : Code := { maxStack := 2, maxLocals := 2, code := jdk_29_method_65_code, exceptionTable := #[], attributes := #[] }
def k13m1 : Method := { name := "max", desc := "(II)I", sig := { parameters := [.int, .int], returnType := some .int }, accessFlags := 9, code := some k13c1 }
def k13c2 : Code := { maxStack := 2, maxLocals := 2, code := jdk_29_method_69_code, exceptionTable := #[], attributes := #[] }
def k13m2 : Method := { name := "min", desc := "(II)I", sig := { parameters := [.int, .int], returnType := some .int }, accessFlags := 9, code := some k13c2 }
/-- java/lang/Math -/
def k13 : Class := { plain "java/lang/Math" (some 0) with
  accessFlags := 49
  interfaces := #[]
  cf := some (fileOf pool13 1 #[.nestMembers #[98]] #[{ accessFlags := 2, nameIndex := 7, descriptorIndex := 8, attributes := #[] }, { accessFlags := 9, nameIndex := 198, descriptorIndex := 335, attributes := #[] }, { accessFlags := 9, nameIndex := 201, descriptorIndex := 335, attributes := #[] }] 49 4 #[] #[{ accessFlags := 25, nameIndex := 354, descriptorIndex := 339, attributes := #[] }, { accessFlags := 25, nameIndex := 358, descriptorIndex := 339, attributes := #[] }, { accessFlags := 25, nameIndex := 361, descriptorIndex := 339, attributes := #[] }, { accessFlags := 26, nameIndex := 364, descriptorIndex := 339, attributes := #[] }, { accessFlags := 26, nameIndex := 365, descriptorIndex := 339, attributes := #[] }, { accessFlags := 26, nameIndex := 172, descriptorIndex := 173, attributes := #[] }, { accessFlags := 26, nameIndex := 176, descriptorIndex := 173, attributes := #[] }, { accessFlags := 8, nameIndex := 344, descriptorIndex := 339, attributes := #[] }, { accessFlags := 8, nameIndex := 338, descriptorIndex := 339, attributes := #[] }, { accessFlags := 4120, nameIndex := 245, descriptorIndex := 246, attributes := #[] }])
  fields := #[{ name := "E", type := .double, accessFlags := 25, slot := 0, constantValue := 0 }, { name := "PI", type := .double, accessFlags := 25, slot := 1, constantValue := 0 }, { name := "TAU", type := .double, accessFlags := 25, slot := 2, constantValue := 0 }, { name := "DEGREES_TO_RADIANS", type := .double, accessFlags := 26, slot := 3, constantValue := 0 }, { name := "RADIANS_TO_DEGREES", type := .double, accessFlags := 26, slot := 4, constantValue := 0 }, { name := "negativeZeroFloatBits", type := .long, accessFlags := 26, slot := 5, constantValue := 0 }, { name := "negativeZeroDoubleBits", type := .long, accessFlags := 26, slot := 6, constantValue := 0 }, { name := "twoToTheDoubleScaleUp", type := .double, accessFlags := 8, slot := 7, constantValue := 0 }, { name := "twoToTheDoubleScaleDown", type := .double, accessFlags := 8, slot := 8, constantValue := 0 }, { name := "$assertionsDisabled", type := .boolean, accessFlags := 4120, slot := 9, constantValue := 0 }]
  methods := #[k13m0, k13m1, k13m2]
  instanceTypes := #[]
  staticTypes := #[.double, .double, .double, .double, .double, .long, .long, .double, .double, .boolean]
  resolved := Array.replicate 460 none
  statics := none }

def pool14 : Array CpInfo := pool [(9, u "<init>"), (6, .class_ 18), (1, u "java/lang/Object"), (0, u "()V"), (1, .class_ 23), (1, u "jdk/internal/util/ArraysSupport"), (0, u "LOG2_ARRAY_LONG_INDEX_SCALE"), (0, u "I"), (2, u "U"), (0, u "Ljdk/internal/misc/Unsafe;"), (8, u "BIG_ENDIAN"), (0, u "Z"), (8, u "LOG2_BYTE_BIT_SIZE"), (4, u "LOG2_ARRAY_INT_INDEX_SCALE"), (54, u "JLA"), (0, u "Ljdk/internal/access/JavaLangAccess;"), (11, u "LOG2_ARRAY_BOOLEAN_INDEX_SCALE"), (9, u "LOG2_ARRAY_BYTE_INDEX_SCALE"), (5, u "LOG2_ARRAY_CHAR_INDEX_SCALE"), (5, u "LOG2_ARRAY_SHORT_INDEX_SCALE"), (18, u "LOG2_ARRAY_FLOAT_INDEX_SCALE"), (24, u "LOG2_ARRAY_DOUBLE_INDEX_SCALE"), (89, u "T_BOOLEAN"), (2, u "T_CHAR"), (1, u "T_FLOAT"), (1, u "T_DOUBLE"), (1, u "T_BYTE"), (1, u "T_SHORT"), (1, u "T_INT"), (1, u "T_LONG"), (1, u "SOFT_MAX_ARRAY_LENGTH")] 83

def k14m0 : Method := { name := "<init>", desc := "()V", sig := { parameters := [], returnType := none }, accessFlags := 2, code := none }
/-- jdk/internal/util/ArraysSupport -/
def k14 : Class := { plain "jdk/internal/util/ArraysSupport" (some 0) with
  accessFlags := 33
  interfaces := #[]
  cf := some (fileOf pool14 21 #[] #[{ accessFlags := 2, nameIndex := 9, descriptorIndex := 19, attributes := #[] }] 33 16 #[] #[{ accessFlags := 24, nameIndex := 28, descriptorIndex := 29, attributes := #[] }, { accessFlags := 26, nameIndex := 38, descriptorIndex := 39, attributes := #[] }, { accessFlags := 25, nameIndex := 121, descriptorIndex := 25, attributes := #[] }, { accessFlags := 25, nameIndex := 131, descriptorIndex := 25, attributes := #[] }, { accessFlags := 25, nameIndex := 137, descriptorIndex := 25, attributes := #[] }, { accessFlags := 25, nameIndex := 143, descriptorIndex := 25, attributes := #[] }, { accessFlags := 25, nameIndex := 53, descriptorIndex := 25, attributes := #[] }, { accessFlags := 25, nameIndex := 24, descriptorIndex := 25, attributes := #[] }, { accessFlags := 25, nameIndex := 162, descriptorIndex := 25, attributes := #[] }, { accessFlags := 25, nameIndex := 187, descriptorIndex := 25, attributes := #[] }, { accessFlags := 26, nameIndex := 48, descriptorIndex := 25, attributes := #[] }, { accessFlags := 25, nameIndex := 277, descriptorIndex := 25, attributes := #[] }, { accessFlags := 25, nameIndex := 280, descriptorIndex := 25, attributes := #[] }, { accessFlags := 25, nameIndex := 282, descriptorIndex := 25, attributes := #[] }, { accessFlags := 25, nameIndex := 284, descriptorIndex := 25, attributes := #[] }, { accessFlags := 25, nameIndex := 286, descriptorIndex := 25, attributes := #[] }, { accessFlags := 25, nameIndex := 288, descriptorIndex := 25, attributes := #[] }, { accessFlags := 25, nameIndex := 290, descriptorIndex := 25, attributes := #[] }, { accessFlags := 25, nameIndex := 292, descriptorIndex := 25, attributes := #[] }, { accessFlags := 26, nameIndex := 108, descriptorIndex := 109, attributes := #[] }, { accessFlags := 25, nameIndex := 294, descriptorIndex := 25, attributes := #[] }])
  fields := #[{ name := "U", type := (.object "jdk/internal/misc/Unsafe"), accessFlags := 24, slot := 0, constantValue := 0 }, { name := "BIG_ENDIAN", type := .boolean, accessFlags := 26, slot := 1, constantValue := 0 }, { name := "LOG2_ARRAY_BOOLEAN_INDEX_SCALE", type := .int, accessFlags := 25, slot := 2, constantValue := 0 }, { name := "LOG2_ARRAY_BYTE_INDEX_SCALE", type := .int, accessFlags := 25, slot := 3, constantValue := 0 }, { name := "LOG2_ARRAY_CHAR_INDEX_SCALE", type := .int, accessFlags := 25, slot := 4, constantValue := 0 }, { name := "LOG2_ARRAY_SHORT_INDEX_SCALE", type := .int, accessFlags := 25, slot := 5, constantValue := 0 }, { name := "LOG2_ARRAY_INT_INDEX_SCALE", type := .int, accessFlags := 25, slot := 6, constantValue := 0 }, { name := "LOG2_ARRAY_LONG_INDEX_SCALE", type := .int, accessFlags := 25, slot := 7, constantValue := 0 }, { name := "LOG2_ARRAY_FLOAT_INDEX_SCALE", type := .int, accessFlags := 25, slot := 8, constantValue := 0 }, { name := "LOG2_ARRAY_DOUBLE_INDEX_SCALE", type := .int, accessFlags := 25, slot := 9, constantValue := 0 }, { name := "LOG2_BYTE_BIT_SIZE", type := .int, accessFlags := 26, slot := 10, constantValue := 0 }, { name := "T_BOOLEAN", type := .int, accessFlags := 25, slot := 11, constantValue := 0 }, { name := "T_CHAR", type := .int, accessFlags := 25, slot := 12, constantValue := 0 }, { name := "T_FLOAT", type := .int, accessFlags := 25, slot := 13, constantValue := 0 }, { name := "T_DOUBLE", type := .int, accessFlags := 25, slot := 14, constantValue := 0 }, { name := "T_BYTE", type := .int, accessFlags := 25, slot := 15, constantValue := 0 }, { name := "T_SHORT", type := .int, accessFlags := 25, slot := 16, constantValue := 0 }, { name := "T_INT", type := .int, accessFlags := 25, slot := 17, constantValue := 0 }, { name := "T_LONG", type := .int, accessFlags := 25, slot := 18, constantValue := 0 }, { name := "JLA", type := (.object "jdk/internal/access/JavaLangAccess"), accessFlags := 26, slot := 19, constantValue := 0 }, { name := "SOFT_MAX_ARRAY_LENGTH", type := .int, accessFlags := 25, slot := 20, constantValue := 0 }]
  methods := #[k14m0]
  instanceTypes := #[]
  staticTypes := #[(.object "jdk/internal/misc/Unsafe"), .boolean, .int, .int, .int, .int, .int, .int, .int, .int, .int, .int, .int, .int, .int, .int, .int, .int, .int, (.object "jdk/internal/access/JavaLangAccess"), .int]
  resolved := Array.replicate 378 none
  statics := none }

def pool15 : Array CpInfo := pool [(1, u "java/lang/Cloneable"), (0, .class_ 1), (0, u "java/lang/Object"), (0, .class_ 3)] 3

/-- java/lang/Cloneable -/
def k15 : Class := { plain "java/lang/Cloneable" (some 0) with
  accessFlags := 1537
  interfaces := #[]
  cf := some (fileOf pool15 2 #[] #[] 1537 4 #[] #[])
  fields := #[]
  methods := #[]
  instanceTypes := #[]
  staticTypes := #[]
  resolved := Array.replicate 8 none
  statics := none }

/-- the primitive byte -/
def k16 : Class := { plain "byte" none with kind := .primitive 'B', accessFlags := 0x411 }
/-- [B -/
def k17 : Class := { plain "[B" (some 0) with kind := .array 16 .byte, interfaces := #[15, 2], accessFlags := 1041 }

/-- the primitive char -/
def k18 : Class := { plain "char" none with kind := .primitive 'C', accessFlags := 0x411 }
/-- [C -/
def k19 : Class := { plain "[C" (some 0) with kind := .array 18 .char, interfaces := #[15, 2], accessFlags := 1041 }

/-- the primitive int -/
def k20 : Class := { plain "int" none with kind := .primitive 'I', accessFlags := 0x411 }
/-- [I -/
def k21 : Class := { plain "[I" (some 0) with kind := .array 20 .int, interfaces := #[15, 2], accessFlags := 1041 }

def heap : Heap := #[{ cls := 7, slots := #[.long 0, .int 1, .null, .int 0, .null, .int 0, .int 0], vm := .statics 7 },
  { cls := 10, slots := #[.int 0, .int 8, .int 0, .int 1], vm := .statics 10 },
  { cls := 12, slots := #[.null, .null, .null], vm := .statics 12 }]
def classes : Array Class := #[k0, k1, k2, k3, k4, k5, k6, k7, k8, k9, k10, k11, k12, k13, k14, k15, k16, k17, k18, k19, k20, k21]
def interned : List (Array UInt16 × Addr) := []
def slotsUsed : Nat := 14
def theMethod : MethodId := ⟨1, 2⟩
def args0 : Array Value := #[.int 1, .int 65, .int 66, .int 67]
def aboutOver (below : List Frame) : State where
  vm := { classes := classes, interned := interned.toArray }
  heap := heap
  slotsUsed := slotsUsed
  threads := #[{ frames := .invoking theMethod args0 :: below }]
def below0 : List Frame := [.native { method := ⟨0, 0⟩, args := #[] }]
def about1 : State := aboutOver below0
def p0 : Program := .bare "" "" ""
def e0 : Env := launch0.env 0 0 0
theorem w_frames : about1.frames = Frame.invoking theMethod args0 :: below0 := rfl
set_option maxRecDepth 65536 in
theorem w_args : argsFit about1.vm theMethod args0 = true := by decide +kernel
set_option maxRecDepth 65536 in
theorem w_heap : heapFits about1 = true := by decide +kernel
set_option maxRecDepth 65536 in
theorem w_runnable : about1.curStatus? = some .runnable := by decide +kernel
set_option maxRecDepth 65536 in
theorem w_alone : about1.alone = true := by decide +kernel
set_option maxRecDepth 65536 in
theorem w_named : about1.methodNamed? x = some theMethod := by decide +kernel
set_option maxRecDepth 65536 in
theorem w_hears : about1.hears theMethod below0 = true := by decide +kernel
set_option maxRecDepth 65536 in
theorem w_ripe : about1.ripe theMethod args0 below0 = true := by decide +kernel
theorem w_running : about1.status = .running := rfl
set_option maxRecDepth 65536 in
theorem w_room : about1.hasRoom e0.platform room_1 = true :=
  launch0.hasRoom_least _ room_1 (by decide +kernel) (by decide +kernel) (by decide +kernel) (by decide +kernel) (by decide +kernel) (by decide +kernel)
theorem allAtoms_all (ts : List Jvm.Cond) (a : Array Jvm.Value) (st : Jvm.State) : (allAtoms ts).before a st = ts.all (fun c => c.before a st) := by
  induction ts with
  | nil => rfl
  | cons c t ih =>
    show (Jvm.Cond.and c (allAtoms t)).before a st = _
    rw [Jvm.Cond.before_and, ih, List.all_cons]
def words1 : List Jvm.Cond := Jvm.Cond.code x code maxLocals ret :: tables_1
/-- a 'code' word, met by the world's own term for the bytes: nothing is compared byte by byte -/
theorem code_word {y : MethodName} {bytes : ByteArray} {mx : Nat} {rt : Option FieldType} {a : Array Value} {s : State} {m : MethodId} {meth : Method} {c : Code} (h1 : s.methodNamed? y = some m) (h2 : s.vm.method? m = some meth) (h3 : meth.code = some c) (h4 : c.code = bytes)
    (h5 : (c.maxLocals == mx && c.exceptionTable.isEmpty && decide (c.maxStack ≤ mostOperands) && decide (meth.sig.returnType = rt) && !meth.locks && decide (parseMethodDescriptor y.desc = some meth.sig)) = true) : (Jvm.Cond.code y bytes mx rt).before a s = true := by
  simp only [Bool.and_eq_true, beq_iff_eq, Bool.not_eq_true', decide_eq_true_eq] at h5
  obtain ⟨⟨⟨⟨⟨g1, g2⟩, g3⟩, g4⟩, g5⟩, g6⟩ := h5
  simp [Cond.before, Cond.holds, Cond.value, h1, h2, h3, h4, g1, g2, g3, g4, g5, g6]
def isCode : Jvm.Cond → Bool
  | .code _ _ _ _ => true
  | _ => false
theorem all_split {L : List Jvm.Cond} {P : Jvm.Cond → Bool} (h1 : L.all (fun c => isCode c || P c) = true) (h2 : ∀ c ∈ L.filter isCode, P c = true) : L.all P = true := by
  refine List.all_eq_true.mpr fun c hc => ?_
  have h := List.all_eq_true.mp h1 c hc
  rcases Bool.eq_false_or_eq_true (isCode c) with hi | hi
  · exact h2 c (List.mem_filter.mpr ⟨hc, hi⟩)
  · simpa [hi] using h
set_option maxRecDepth 65536 in
theorem w_c0 : (Jvm.Cond.code x code maxLocals ret).before args0 about1 = true := code_word (m := ⟨1, 2⟩) (meth := k1m2) (c := k1c2) (by decide +kernel) rfl rfl rfl (by decide +kernel)
set_option maxRecDepth 65536 in
theorem w_c1 : (Jvm.Cond.code ({ cls := "java/lang/String", name := "<init>", desc := "([C)V" } : Jvm.MethodName) jdk_42_method_3_code (2 : Nat) (Option.none : Option Jvm.ClassFile.FieldType)).before args0 about1 = true := code_word (m := ⟨7, 1⟩) (meth := k7m1) (c := k7c1) (by decide +kernel) rfl rfl rfl (by decide +kernel)
set_option maxRecDepth 65536 in
theorem w_c2 : (Jvm.Cond.code ({ cls := "java/lang/String", name := "<init>", desc := "([CIILjava/lang/Void;)V" } : Jvm.MethodName) jdk_42_method_149_code (6 : Nat) (Option.none : Option Jvm.ClassFile.FieldType)).before args0 about1 = true := code_word (m := ⟨7, 7⟩) (meth := k7m7) (c := k7c7) (by decide +kernel) rfl rfl rfl (by decide +kernel)
set_option maxRecDepth 65536 in
theorem w_c3 : (Jvm.Cond.code ({ cls := "java/lang/Object", name := "<init>", desc := "()V" } : Jvm.MethodName) object_method_1_code (1 : Nat) (Option.none : Option Jvm.ClassFile.FieldType)).before args0 about1 = true := code_word (m := ⟨0, 0⟩) (meth := k0m0) (c := k0c0) (by decide +kernel) rfl rfl rfl (by decide +kernel)
set_option maxRecDepth 65536 in
theorem w_c4 : (Jvm.Cond.code ({ cls := "com/example/vaultwright/vaultwright/http/RequestHead", name := "isToken", desc := "(Ljava/lang/String;)Z" } : Jvm.MethodName) prog_34_method_4_code (4 : Nat) (Option.some Jvm.ClassFile.FieldType.boolean)).before args0 about1 = true := code_word (m := ⟨9, 0⟩) (meth := k9m0) (c := k9c0) (by decide +kernel) rfl rfl rfl (by decide +kernel)
set_option maxRecDepth 65536 in
theorem w_c5 : (Jvm.Cond.code ({ cls := "java/lang/String", name := "isEmpty", desc := "()Z" } : Jvm.MethodName) jdk_42_method_55_code (1 : Nat) (Option.some Jvm.ClassFile.FieldType.boolean)).before args0 about1 = true := code_word (m := ⟨7, 3⟩) (meth := k7m3) (c := k7c3) (by decide +kernel) rfl rfl rfl (by decide +kernel)
set_option maxRecDepth 65536 in
theorem w_c6 : (Jvm.Cond.code ({ cls := "java/lang/StringUTF16", name := "compress", desc := "([CII)[B" } : Jvm.MethodName) jdk_52_method_16_code (6 : Nat) (Option.some (Jvm.ClassFile.FieldType.array Jvm.ClassFile.FieldType.byte))).before args0 about1 = true := code_word (m := ⟨10, 8⟩) (meth := k10m8) (c := k10c8) (by decide +kernel) rfl rfl rfl (by decide +kernel)
set_option maxRecDepth 65536 in
theorem w_c7 : (Jvm.Cond.code ({ cls := "java/lang/StringUTF16", name := "compress", desc := "([CI[BII)I" } : Jvm.MethodName) jdk_52_method_21_code (7 : Nat) (Option.some Jvm.ClassFile.FieldType.int)).before args0 about1 = true := code_word (m := ⟨10, 9⟩) (meth := k10m9) (c := k10c9) (by decide +kernel) rfl rfl rfl (by decide +kernel)
set_option maxRecDepth 65536 in
theorem w_c8 : (Jvm.Cond.code ({ cls := "java/lang/StringUTF16", name := "coderFromArrayLen", desc := "([BI)B" } : Jvm.MethodName) jdk_52_method_15_code (2 : Nat) (Option.some Jvm.ClassFile.FieldType.byte)).before args0 about1 = true := code_word (m := ⟨10, 7⟩) (meth := k10m7) (c := k10c7) (by decide +kernel) rfl rfl rfl (by decide +kernel)
set_option maxRecDepth 65536 in
theorem w_c9 : (Jvm.Cond.code ({ cls := "com/example/vaultwright/vaultwright/http/RequestHeadIsTokenPinLaw", name := "tchar", desc := "(C)Z" } : Jvm.MethodName) method_2_code (1 : Nat) (Option.some Jvm.ClassFile.FieldType.boolean)).before args0 about1 = true := code_word (m := ⟨1, 1⟩) (meth := k1m1) (c := k1c1) (by decide +kernel) rfl rfl rfl (by decide +kernel)
set_option maxRecDepth 65536 in
theorem w_c10 : (Jvm.Cond.code ({ cls := "java/lang/String", name := "length", desc := "()I" } : Jvm.MethodName) jdk_42_method_54_code (1 : Nat) (Option.some Jvm.ClassFile.FieldType.int)).before args0 about1 = true := code_word (m := ⟨7, 2⟩) (meth := k7m2) (c := k7c2) (by decide +kernel) rfl rfl rfl (by decide +kernel)
set_option maxRecDepth 65536 in
theorem w_c11 : (Jvm.Cond.code ({ cls := "java/lang/String", name := "coder", desc := "()B" } : Jvm.MethodName) jdk_42_method_152_code (1 : Nat) (Option.some Jvm.ClassFile.FieldType.byte)).before args0 about1 = true := code_word (m := ⟨7, 8⟩) (meth := k7m8) (c := k7c8) (by decide +kernel) rfl rfl rfl (by decide +kernel)
set_option maxRecDepth 65536 in
theorem w_c12 : (Jvm.Cond.code ({ cls := "java/lang/String", name := "charAt", desc := "(I)C" } : Jvm.MethodName) jdk_42_method_56_code (2 : Nat) (Option.some Jvm.ClassFile.FieldType.char)).before args0 about1 = true := code_word (m := ⟨7, 4⟩) (meth := k7m4) (c := k7c4) (by decide +kernel) rfl rfl rfl (by decide +kernel)
set_option maxRecDepth 65536 in
theorem w_c13 : (Jvm.Cond.code ({ cls := "java/lang/String", name := "isLatin1", desc := "()Z" } : Jvm.MethodName) jdk_42_method_154_code (1 : Nat) (Option.some Jvm.ClassFile.FieldType.boolean)).before args0 about1 = true := code_word (m := ⟨7, 9⟩) (meth := k7m9) (c := k7c9) (by decide +kernel) rfl rfl rfl (by decide +kernel)
set_option maxRecDepth 65536 in
theorem w_c14 : (Jvm.Cond.code ({ cls := "java/lang/StringLatin1", name := "charAt", desc := "([BI)C" } : Jvm.MethodName) jdk_43_method_2_code (2 : Nat) (Option.some Jvm.ClassFile.FieldType.char)).before args0 about1 = true := code_word (m := ⟨11, 1⟩) (meth := k11m1) (c := k11c1) (by decide +kernel) rfl rfl rfl (by decide +kernel)
set_option maxRecDepth 65536 in
theorem w_c15 : (Jvm.Cond.code ({ cls := "java/lang/String", name := "checkIndex", desc := "(II)V" } : Jvm.MethodName) jdk_42_method_155_code (2 : Nat) (Option.none : Option Jvm.ClassFile.FieldType)).before args0 about1 = true := code_word (m := ⟨7, 10⟩) (meth := k7m10) (c := k7c10) (by decide +kernel) rfl rfl rfl (by decide +kernel)
set_option maxRecDepth 65536 in
theorem w_c16 : (Jvm.Cond.code ({ cls := "jdk/internal/util/Preconditions", name := "checkIndex", desc := "(IILjava/util/function/BiFunction;)I" } : Jvm.MethodName) jdk_41_method_11_code (3 : Nat) (Option.some Jvm.ClassFile.FieldType.int)).before args0 about1 = true := code_word (m := ⟨12, 1⟩) (meth := k12m1) (c := k12c1) (by decide +kernel) rfl rfl rfl (by decide +kernel)
set_option maxRecDepth 65536 in
theorem w_c17 : (Jvm.Cond.code ({ cls := "java/lang/String", name := "indexOf", desc := "(I)I" } : Jvm.MethodName) jdk_42_method_79_code (2 : Nat) (Option.some Jvm.ClassFile.FieldType.int)).before args0 about1 = true := code_word (m := ⟨7, 5⟩) (meth := k7m5) (c := k7c5) (by decide +kernel) rfl rfl rfl (by decide +kernel)
set_option maxRecDepth 65536 in
theorem w_c18 : (Jvm.Cond.code ({ cls := "java/lang/String", name := "indexOf", desc := "(II)I" } : Jvm.MethodName) jdk_42_method_80_code (3 : Nat) (Option.some Jvm.ClassFile.FieldType.int)).before args0 about1 = true := code_word (m := ⟨7, 6⟩) (meth := k7m6) (c := k7c6) (by decide +kernel) rfl rfl rfl (by decide +kernel)
set_option maxRecDepth 65536 in
theorem w_c19 : (Jvm.Cond.code ({ cls := "java/lang/StringLatin1", name := "indexOf", desc := "([BIII)I" } : Jvm.MethodName) jdk_43_method_22_code (4 : Nat) (Option.some Jvm.ClassFile.FieldType.int)).before args0 about1 = true := code_word (m := ⟨11, 3⟩) (meth := k11m3) (c := k11c3) (by decide +kernel) rfl rfl rfl (by decide +kernel)
set_option maxRecDepth 65536 in
theorem w_c20 : (Jvm.Cond.code ({ cls := "java/lang/StringLatin1", name := "canEncode", desc := "(I)Z" } : Jvm.MethodName) jdk_43_method_4_code (1 : Nat) (Option.some Jvm.ClassFile.FieldType.boolean)).before args0 about1 = true := code_word (m := ⟨11, 2⟩) (meth := k11m2) (c := k11c2) (by decide +kernel) rfl rfl rfl (by decide +kernel)
set_option maxRecDepth 65536 in
theorem w_c21 : (Jvm.Cond.code ({ cls := "java/lang/Math", name := "max", desc := "(II)I" } : Jvm.MethodName) jdk_29_method_65_code (2 : Nat) (Option.some Jvm.ClassFile.FieldType.int)).before args0 about1 = true := code_word (m := ⟨13, 1⟩) (meth := k13m1) (c := k13c1) (by decide +kernel) rfl rfl rfl (by decide +kernel)
set_option maxRecDepth 65536 in
theorem w_c22 : (Jvm.Cond.code ({ cls := "java/lang/Math", name := "min", desc := "(II)I" } : Jvm.MethodName) jdk_29_method_69_code (2 : Nat) (Option.some Jvm.ClassFile.FieldType.int)).before args0 about1 = true := code_word (m := ⟨13, 2⟩) (meth := k13m2) (c := k13c2) (by decide +kernel) rfl rfl rfl (by decide +kernel)
set_option maxRecDepth 65536 in
theorem w_c23 : (Jvm.Cond.code ({ cls := "java/lang/StringLatin1", name := "indexOfChar", desc := "([BIII)I" } : Jvm.MethodName) jdk_43_method_23_code (6 : Nat) (Option.some Jvm.ClassFile.FieldType.int)).before args0 about1 = true := code_word (m := ⟨11, 4⟩) (meth := k11m4) (c := k11c4) (by decide +kernel) rfl rfl rfl (by decide +kernel)
set_option maxRecDepth 65536 in
theorem w_c24 : (Jvm.Cond.code ({ cls := "java/lang/StringUTF16", name := "toBytes", desc := "([CII)[B" } : Jvm.MethodName) jdk_52_method_14_code (5 : Nat) (Option.some (Jvm.ClassFile.FieldType.array Jvm.ClassFile.FieldType.byte))).before args0 about1 = true := code_word (m := ⟨10, 6⟩) (meth := k10m6) (c := k10c6) (by decide +kernel) rfl rfl rfl (by decide +kernel)
set_option maxRecDepth 65536 in
theorem w_c25 : (Jvm.Cond.code ({ cls := "java/lang/StringUTF16", name := "newBytesFor", desc := "(I)[B" } : Jvm.MethodName) jdk_52_method_2_code (1 : Nat) (Option.some (Jvm.ClassFile.FieldType.array Jvm.ClassFile.FieldType.byte))).before args0 about1 = true := code_word (m := ⟨10, 1⟩) (meth := k10m1) (c := k10c1) (by decide +kernel) rfl rfl rfl (by decide +kernel)
set_option maxRecDepth 65536 in
theorem w_c26 : (Jvm.Cond.code ({ cls := "java/lang/StringUTF16", name := "newBytesLength", desc := "(I)I" } : Jvm.MethodName) jdk_52_method_3_code (1 : Nat) (Option.some Jvm.ClassFile.FieldType.int)).before args0 about1 = true := code_word (m := ⟨10, 2⟩) (meth := k10m2) (c := k10c2) (by decide +kernel) rfl rfl rfl (by decide +kernel)
set_option maxRecDepth 65536 in
theorem w_c27 : (Jvm.Cond.code ({ cls := "java/lang/StringUTF16", name := "putChar", desc := "([BII)V" } : Jvm.MethodName) jdk_52_method_4_code (3 : Nat) (Option.none : Option Jvm.ClassFile.FieldType)).before args0 about1 = true := code_word (m := ⟨10, 3⟩) (meth := k10m3) (c := k10c3) (by decide +kernel) rfl rfl rfl (by decide +kernel)
set_option maxRecDepth 65536 in
theorem w_c28 : (Jvm.Cond.code ({ cls := "java/lang/StringUTF16", name := "getChar", desc := "([BI)C" } : Jvm.MethodName) jdk_52_method_5_code (2 : Nat) (Option.some Jvm.ClassFile.FieldType.char)).before args0 about1 = true := code_word (m := ⟨10, 4⟩) (meth := k10m4) (c := k10c4) (by decide +kernel) rfl rfl rfl (by decide +kernel)
set_option maxRecDepth 65536 in
theorem w_c29 : (Jvm.Cond.code ({ cls := "java/lang/StringUTF16", name := "charAt", desc := "([BI)C" } : Jvm.MethodName) jdk_52_method_83_code (2 : Nat) (Option.some Jvm.ClassFile.FieldType.char)).before args0 about1 = true := code_word (m := ⟨10, 10⟩) (meth := k10m10) (c := k10c10) (by decide +kernel) rfl rfl rfl (by decide +kernel)
set_option maxRecDepth 65536 in
theorem w_c30 : (Jvm.Cond.code ({ cls := "java/lang/StringUTF16", name := "checkIndex", desc := "(I[B)V" } : Jvm.MethodName) jdk_52_method_91_code (2 : Nat) (Option.none : Option Jvm.ClassFile.FieldType)).before args0 about1 = true := code_word (m := ⟨10, 11⟩) (meth := k10m11) (c := k10c11) (by decide +kernel) rfl rfl rfl (by decide +kernel)
set_option maxRecDepth 65536 in
theorem w_c31 : (Jvm.Cond.code ({ cls := "java/lang/StringUTF16", name := "length", desc := "([B)I" } : Jvm.MethodName) jdk_52_method_6_code (1 : Nat) (Option.some Jvm.ClassFile.FieldType.int)).before args0 about1 = true := code_word (m := ⟨10, 5⟩) (meth := k10m5) (c := k10c5) (by decide +kernel) rfl rfl rfl (by decide +kernel)
def codes1 : List Jvm.Cond := [Jvm.Cond.code x code maxLocals ret, Jvm.Cond.code ({ cls := "java/lang/String", name := "<init>", desc := "([C)V" } : Jvm.MethodName) jdk_42_method_3_code (2 : Nat) (Option.none : Option Jvm.ClassFile.FieldType), Jvm.Cond.code ({ cls := "java/lang/String", name := "<init>", desc := "([CIILjava/lang/Void;)V" } : Jvm.MethodName) jdk_42_method_149_code (6 : Nat) (Option.none : Option Jvm.ClassFile.FieldType), Jvm.Cond.code ({ cls := "java/lang/Object", name := "<init>", desc := "()V" } : Jvm.MethodName) object_method_1_code (1 : Nat) (Option.none : Option Jvm.ClassFile.FieldType), Jvm.Cond.code ({ cls := "com/example/vaultwright/vaultwright/http/RequestHead", name := "isToken", desc := "(Ljava/lang/String;)Z" } : Jvm.MethodName) prog_34_method_4_code (4 : Nat) (Option.some Jvm.ClassFile.FieldType.boolean), Jvm.Cond.code ({ cls := "java/lang/String", name := "isEmpty", desc := "()Z" } : Jvm.MethodName) jdk_42_method_55_code (1 : Nat) (Option.some Jvm.ClassFile.FieldType.boolean), Jvm.Cond.code ({ cls := "java/lang/StringUTF16", name := "compress", desc := "([CII)[B" } : Jvm.MethodName) jdk_52_method_16_code (6 : Nat) (Option.some (Jvm.ClassFile.FieldType.array Jvm.ClassFile.FieldType.byte)), Jvm.Cond.code ({ cls := "java/lang/StringUTF16", name := "compress", desc := "([CI[BII)I" } : Jvm.MethodName) jdk_52_method_21_code (7 : Nat) (Option.some Jvm.ClassFile.FieldType.int), Jvm.Cond.code ({ cls := "java/lang/StringUTF16", name := "coderFromArrayLen", desc := "([BI)B" } : Jvm.MethodName) jdk_52_method_15_code (2 : Nat) (Option.some Jvm.ClassFile.FieldType.byte), Jvm.Cond.code ({ cls := "com/example/vaultwright/vaultwright/http/RequestHeadIsTokenPinLaw", name := "tchar", desc := "(C)Z" } : Jvm.MethodName) method_2_code (1 : Nat) (Option.some Jvm.ClassFile.FieldType.boolean), Jvm.Cond.code ({ cls := "java/lang/String", name := "length", desc := "()I" } : Jvm.MethodName) jdk_42_method_54_code (1 : Nat) (Option.some Jvm.ClassFile.FieldType.int), Jvm.Cond.code ({ cls := "java/lang/String", name := "coder", desc := "()B" } : Jvm.MethodName) jdk_42_method_152_code (1 : Nat) (Option.some Jvm.ClassFile.FieldType.byte), Jvm.Cond.code ({ cls := "java/lang/String", name := "charAt", desc := "(I)C" } : Jvm.MethodName) jdk_42_method_56_code (2 : Nat) (Option.some Jvm.ClassFile.FieldType.char), Jvm.Cond.code ({ cls := "java/lang/String", name := "isLatin1", desc := "()Z" } : Jvm.MethodName) jdk_42_method_154_code (1 : Nat) (Option.some Jvm.ClassFile.FieldType.boolean), Jvm.Cond.code ({ cls := "java/lang/StringLatin1", name := "charAt", desc := "([BI)C" } : Jvm.MethodName) jdk_43_method_2_code (2 : Nat) (Option.some Jvm.ClassFile.FieldType.char), Jvm.Cond.code ({ cls := "java/lang/String", name := "checkIndex", desc := "(II)V" } : Jvm.MethodName) jdk_42_method_155_code (2 : Nat) (Option.none : Option Jvm.ClassFile.FieldType), Jvm.Cond.code ({ cls := "jdk/internal/util/Preconditions", name := "checkIndex", desc := "(IILjava/util/function/BiFunction;)I" } : Jvm.MethodName) jdk_41_method_11_code (3 : Nat) (Option.some Jvm.ClassFile.FieldType.int), Jvm.Cond.code ({ cls := "java/lang/String", name := "indexOf", desc := "(I)I" } : Jvm.MethodName) jdk_42_method_79_code (2 : Nat) (Option.some Jvm.ClassFile.FieldType.int), Jvm.Cond.code ({ cls := "java/lang/String", name := "indexOf", desc := "(II)I" } : Jvm.MethodName) jdk_42_method_80_code (3 : Nat) (Option.some Jvm.ClassFile.FieldType.int), Jvm.Cond.code ({ cls := "java/lang/StringLatin1", name := "indexOf", desc := "([BIII)I" } : Jvm.MethodName) jdk_43_method_22_code (4 : Nat) (Option.some Jvm.ClassFile.FieldType.int), Jvm.Cond.code ({ cls := "java/lang/StringLatin1", name := "canEncode", desc := "(I)Z" } : Jvm.MethodName) jdk_43_method_4_code (1 : Nat) (Option.some Jvm.ClassFile.FieldType.boolean), Jvm.Cond.code ({ cls := "java/lang/Math", name := "max", desc := "(II)I" } : Jvm.MethodName) jdk_29_method_65_code (2 : Nat) (Option.some Jvm.ClassFile.FieldType.int), Jvm.Cond.code ({ cls := "java/lang/Math", name := "min", desc := "(II)I" } : Jvm.MethodName) jdk_29_method_69_code (2 : Nat) (Option.some Jvm.ClassFile.FieldType.int), Jvm.Cond.code ({ cls := "java/lang/StringLatin1", name := "indexOfChar", desc := "([BIII)I" } : Jvm.MethodName) jdk_43_method_23_code (6 : Nat) (Option.some Jvm.ClassFile.FieldType.int), Jvm.Cond.code ({ cls := "java/lang/StringUTF16", name := "toBytes", desc := "([CII)[B" } : Jvm.MethodName) jdk_52_method_14_code (5 : Nat) (Option.some (Jvm.ClassFile.FieldType.array Jvm.ClassFile.FieldType.byte)), Jvm.Cond.code ({ cls := "java/lang/StringUTF16", name := "newBytesFor", desc := "(I)[B" } : Jvm.MethodName) jdk_52_method_2_code (1 : Nat) (Option.some (Jvm.ClassFile.FieldType.array Jvm.ClassFile.FieldType.byte)), Jvm.Cond.code ({ cls := "java/lang/StringUTF16", name := "newBytesLength", desc := "(I)I" } : Jvm.MethodName) jdk_52_method_3_code (1 : Nat) (Option.some Jvm.ClassFile.FieldType.int), Jvm.Cond.code ({ cls := "java/lang/StringUTF16", name := "putChar", desc := "([BII)V" } : Jvm.MethodName) jdk_52_method_4_code (3 : Nat) (Option.none : Option Jvm.ClassFile.FieldType), Jvm.Cond.code ({ cls := "java/lang/StringUTF16", name := "getChar", desc := "([BI)C" } : Jvm.MethodName) jdk_52_method_5_code (2 : Nat) (Option.some Jvm.ClassFile.FieldType.char), Jvm.Cond.code ({ cls := "java/lang/StringUTF16", name := "charAt", desc := "([BI)C" } : Jvm.MethodName) jdk_52_method_83_code (2 : Nat) (Option.some Jvm.ClassFile.FieldType.char), Jvm.Cond.code ({ cls := "java/lang/StringUTF16", name := "checkIndex", desc := "(I[B)V" } : Jvm.MethodName) jdk_52_method_91_code (2 : Nat) (Option.none : Option Jvm.ClassFile.FieldType), Jvm.Cond.code ({ cls := "java/lang/StringUTF16", name := "length", desc := "([B)I" } : Jvm.MethodName) jdk_52_method_6_code (1 : Nat) (Option.some Jvm.ClassFile.FieldType.int)]
set_option maxRecDepth 65536 in
theorem codes_eq : words1.filter isCode = codes1 := rfl
theorem w_codes : ∀ c ∈ words1.filter isCode, c.before args0 about1 = true := by
  rw [codes_eq]
  intro c hc
  simp only [codes1, List.mem_cons, List.not_mem_nil, or_false] at hc
  rcases hc with rfl | rfl | rfl | rfl | rfl | rfl | rfl | rfl | rfl | rfl | rfl | rfl | rfl | rfl | rfl | rfl | rfl | rfl | rfl | rfl | rfl | rfl | rfl | rfl | rfl | rfl | rfl | rfl | rfl | rfl | rfl | rfl
  · exact w_c0
  · exact w_c1
  · exact w_c2
  · exact w_c3
  · exact w_c4
  · exact w_c5
  · exact w_c6
  · exact w_c7
  · exact w_c8
  · exact w_c9
  · exact w_c10
  · exact w_c11
  · exact w_c12
  · exact w_c13
  · exact w_c14
  · exact w_c15
  · exact w_c16
  · exact w_c17
  · exact w_c18
  · exact w_c19
  · exact w_c20
  · exact w_c21
  · exact w_c22
  · exact w_c23
  · exact w_c24
  · exact w_c25
  · exact w_c26
  · exact w_c27
  · exact w_c28
  · exact w_c29
  · exact w_c30
  · exact w_c31
set_option maxRecDepth 65536 in
theorem w_t1 : (words1.take 24).all (fun c => isCode c || c.before args0 about1) = true := by decide +kernel
set_option maxRecDepth 65536 in
theorem w_t2 : ((words1.drop 24).take 24).all (fun c => isCode c || c.before args0 about1) = true := by decide +kernel
set_option maxRecDepth 65536 in
theorem w_t3 : (((words1.drop 24).drop 24).take 24).all (fun c => isCode c || c.before args0 about1) = true := by decide +kernel
set_option maxRecDepth 65536 in
theorem w_t4 : ((((words1.drop 24).drop 24).drop 24).take 24).all (fun c => isCode c || c.before args0 about1) = true := by decide +kernel
set_option maxRecDepth 65536 in
theorem w_t5 : (((((words1.drop 24).drop 24).drop 24).drop 24).take 24).all (fun c => isCode c || c.before args0 about1) = true := by decide +kernel
set_option maxRecDepth 65536 in
theorem w_t6 : (((((words1.drop 24).drop 24).drop 24).drop 24).drop 24).all (fun c => isCode c || c.before args0 about1) = true := by decide +kernel
theorem w_tables : (allAtoms (Jvm.Cond.code x code maxLocals ret :: tables_1)).before args0 about1 = true := by
  rw [allAtoms_all]
  show words1.all (fun c => c.before args0 about1) = true
  refine all_split ?_ w_codes
  rw [← List.take_append_drop 24 words1, List.all_append, w_t1, ← List.take_append_drop 24 (words1.drop 24), List.all_append, w_t2, ← List.take_append_drop 24 ((words1.drop 24).drop 24), List.all_append, w_t3, ← List.take_append_drop 24 (((words1.drop 24).drop 24).drop 24), List.all_append, w_t4, ← List.take_append_drop 24 ((((words1.drop 24).drop 24).drop 24).drop 24), List.all_append, w_t5, w_t6]
  rfl
set_option maxRecDepth 65536 in
theorem w_rest : rest_1_c.before args0 about1 = true := by decide +kernel
set_option maxRecDepth 65536 in
theorem w_case : (Jvm.Cond.and given_1 narrow_1).before args0 about1 = true := by decide +kernel
set_option maxRecDepth 65536 in
theorem w_consts : constsHeld consts_1 about1 := Jvm.Lit.constsHeldB_iff.mp (by decide +kernel)
theorem w_applies : (headSpec (Jvm.Cond.code x code maxLocals ret :: tables_1) room_1).applies x e0.platform about1 = true :=
  (Spec.applies_iff w_frames).mpr ⟨w_running, w_runnable, w_alone, w_named, w_hears, w_ripe, w_room, w_tables⟩
theorem atStart : AtStart classFile x code maxLocals ret World_1 tables_1 room_1 Calls_1 rest_1 Pre_1 launch0 p0 e0 about1 theMethod args0 below0 :=
  ⟨lists_1, trivial, launch0.admits_env _ _ _, launch0.least_env, fairChoices_fair.cas, fairChoices_fair.clock, w_frames, w_args, w_heap, w_applies, ⟨w_consts, trivial⟩, w_rest, w_case⟩
end start1
theorem witness_1 : WitnessClaimed_1 := ⟨start1.p0, start1.e0, start1.about1, start1.theMethod, start1.args0, start1.below0, start1.atStart⟩
end Jvm.Pilot.@@N@@
