import JvmDerived
import JvmDerived.Pilot.@@N@@Statement
import JvmDerived.Pilot.@@N@@Code
set_option linter.unusedVariables false
set_option linter.unusedSimpArgs false
namespace Jvm.Pilot.@@N@@
open Jvm Jvm.ClassFile Sem Op Lib Jvm.Free Jvm.Stand Jvm.LawKit Jvm.RoadKit Bundle Jvm.Pilot.@@N@@.Jvm.D

section Own
variable {p : Program} {l : Launch} {e : Env} {R : Room} {s : State} {m : MethodId} {args : Array Value} {below : List Frame} {meth : Method} {c : Code} {T : State} {locs : List Loc} {cells slots : Nat} {Qo : Option Value → Heap → List Loc → Prop} {C N : Nat}
/-- the run goes on from U to a return that answers Qo -/
def own_Done (p : Program) (e : Env) (below : List Frame) (s : State) (Qo : Option Value → Heap → List Loc → Prop) (C N : Nat) (U : State) : Prop :=
  ∃ s₂ o, Steps p.tables e below U s₂ ∧ s₂.status = .running ∧ Ended s₂ below o ∧ (∃ v L, o = .returned v ∧ Qo v s₂.heap L ∧ FrameEnd s o s₂ L C N)
theorem own_go {U U' : State} (h : ∀ t, Steps p.tables e below U' t → Steps p.tables e below U t) (d : own_Done p e below s Qo C N U') : own_Done p e below s Qo C N U := by
  obtain ⟨s₂, o, h1, h2⟩ := d
  exact ⟨s₂, o, h _ h1, h2⟩
theorem own_join {U U' : State} (h : own_Done p e below s Qo C N U' → own_Done p e below s Qo C N U) (d : own_Done p e below s Qo C N U') : own_Done p e below s Qo C N U := h d
theorem own_cell {T : State} {h : Heap} {a : Addr} {c : Cell} (e : T.heap = h) (q : h[a]? = some c) : T.heap[a]? = some c := by rw [e]; exact q
theorem own_sta_keep {Z : State} {h h' : Heap} {C n d : String} {v : Value} (F : Sta Z h C n d v) (K : Keep h h' []) : Sta Z h' C n d v := by
  obtain ⟨cf, i, k, f, st, cell, h1, h2, h3, h4, h5, r⟩ := F
  exact ⟨cf, i, k, f, st, cell, h1, h2, h3, h4, K.2.1 st cell h5 (fun q => nomatch q), r⟩
theorem own_at {c : Cell} {z j : Int32} {vs : List Value} {d v : Value} {i : Nat} (S : c.slots.size = z.toNatClampNeg) (H : Has c vs d) (q : ¬ j < 0 ∧ j < z) (hj : j.toNatClampNeg = i) (hv : vs.getD i d = v) : c.slots[j.toNatClampNeg]? = some v := by
  have h := inb_of S q
  rw [H _ (Nat.lt_of_not_le fun k => h (Or.inr k)), hj, hv]
/-- an array of ints, bytes, chars .. by what its places hold -/
def own_Arf (Z : State) (h : Heap) (a : Addr) (k : ClassId) (ty : FieldType) (n : Int32) (f : Int32 → Int32) : Prop :=
  ∃ c : Cell, Arr Z h a c ty ∧ c.cls = k ∧ c.slots.size = n.toNatClampNeg ∧ ¬ n < 0 ∧ ∀ j : Int32, ¬ j < 0 → j < n → c.slots[j.toNatClampNeg]? = some (.int (f j))
section Arf
variable {Z : State} {h h' : Heap} {a b : Addr} {k : ClassId} {ty : FieldType} {n : Int32} {f : Int32 → Int32}
theorem own_Arf.lt (F : own_Arf Z h a k ty n f) : a < h.size := by obtain ⟨c, A, -⟩ := F; exact A.lt
theorem own_Arf.ext (F : own_Arf Z h a k ty n f) (E : Ext h h') : own_Arf Z h' a k ty n f := by obtain ⟨c, A, r⟩ := F; exact ⟨c, A.ext E, r⟩
theorem own_Arf.other {sl : Nat} {v : Value} (F : own_Arf Z h b k ty n f) (W : Wr h h' a sl v) (q : b ≠ a) : own_Arf Z h' b k ty n f := by obtain ⟨c, A, r⟩ := F; exact ⟨c, A.other W q, r⟩
theorem own_Arf.keep {ws : List Addr} (F : own_Arf Z h a k ty n f) (K : Keep h h' ws) (q : a ∉ ws) : own_Arf Z h' a k ty n f := by obtain ⟨c, A, r⟩ := F; exact ⟨c, ⟨K.2.1 a c A.1 q, A.2⟩, r⟩
theorem own_Arf.new (A : Arr Z h a (newA k ty n) ty) (q : ¬ n < 0) (hd : defaultValue ty = .int 0) : own_Arf Z h a k ty n (fun _ => (0 : Int32)) :=
  ⟨_, A, rfl, sz_new _ _ _, q, fun j h1 h2 => by
    have h3 := inb_of (sz_new k ty n) (z := n) (j := j) ⟨h1, h2⟩
    rw [sz_new] at h3
    rw [get_new h3, hd]⟩
theorem own_Arf.set {c : Cell} {j v : Int32} (A : Arr Z h a c ty) (q1 : c.cls = k) (S : c.slots.size = n.toNatClampNeg) (q3 : ¬ n < 0) (H : ∀ j : Int32, ¬ j < 0 → j < n → c.slots[j.toNatClampNeg]? = some (.int (f j))) (hj : ¬ j < 0 ∧ j < n) (W : Wr h h' a j.toNatClampNeg (.int v)) :
    own_Arf Z h' a k ty n (fun i => if i = j then v else f i) :=
  ⟨c.setSlot j.toNatClampNeg (.int v), A.same W, q1, by rw [sz_set]; exact S, q3, fun i h1 h2 => by
    by_cases e : i = j
    · rw [get_hit (inb_of S hj) e]; simp only [if_pos e]
    · rw [get_miss hj.1 h1 e, H i h1 h2]; simp only [if_neg e]⟩
end Arf
theorem own_ret (X : Stand p l e R s m args below meth c T locs cells slots) {v : Option Value} {g : JFrame} (hlk : meth.locks = false) (hv : meth.sig.returnType = none → v = none) (hC : cells ≤ C) (hN : slots ≤ N)
    (st : ∀ fs, (∀ (f : JFrame) (acts : List Action), f.method = m → f.locked = none → f.entered = [] → (doReturn e (T.setTop f) acts v).1 = T.setFrames fs) → Steps p.tables e below (T.setTop g) (T.setFrames fs)) (hQ : Qo v T.heap locs) : own_Done p e below s Qo C N (T.setTop g) := by
  obtain ⟨fs, hr, hrun, hended, hW, hsame⟩ := X.leave (v := v) hv hlk
  exact ⟨_, _, st fs hr, hrun, hended, _, _, rfl, hQ, ⟨_, rfl⟩, hW, hsame.mono hC hN⟩
theorem own_retI (X : Stand p l e R s m args below meth c T locs cells slots) (hx : p.tables.exec = Jvm.exec) {pc : Nat} {Ls : Array Slot} {z : Int32} {rest : List Value} (hret : meth.sig.returnType = some .int) (hd : decode c.code pc = .ok (.ireturn, 1)) {fs : List Frame}
    (hl : ∀ (f : JFrame) (acts : List Action), f.method = m → f.locked = none → f.entered = [] → (doReturn e (T.setTop f) acts (some (.int z))).1 = T.setFrames fs) : Steps p.tables e below (T.setTop (mkF m pc Ls (.int z :: rest))) (T.setFrames fs) := by
  exact retOut X hx hret rfl (Or.inl ⟨rfl, Or.inl rfl, z, rfl⟩) hd hl
theorem own_retJ (X : Stand p l e R s m args below meth c T locs cells slots) (hx : p.tables.exec = Jvm.exec) {pc : Nat} {Ls : Array Slot} {z : Int64} {rest : List Value} (hret : meth.sig.returnType = some .long) (hd : decode c.code pc = .ok (.lreturn, 1)) {fs : List Frame}
    (hl : ∀ (f : JFrame) (acts : List Action), f.method = m → f.locked = none → f.entered = [] → (doReturn e (T.setTop f) acts (some (.long z))).1 = T.setFrames fs) : Steps p.tables e below (T.setTop (mkF m pc Ls (.long z :: rest))) (T.setFrames fs) := by
  exact retOut X hx hret rfl (Or.inr (Or.inl ⟨rfl, rfl, z, rfl⟩)) hd hl
theorem own_retR (X : Stand p l e R s m args below meth c T locs cells slots) (hx : p.tables.exec = Jvm.exec) {pc : Nat} {Ls : Array Slot} {w : Value} {t : FieldType} {rest : List Value} (hret : meth.sig.returnType = some t) (ht : t.isReference = true) (hw : w.isRef = true) (hn : narrow t w = w) (hd : decode c.code pc = .ok (.areturn, 1)) {fs : List Frame}
    (hl : ∀ (f : JFrame) (acts : List Action), f.method = m → f.locked = none → f.entered = [] → (doReturn e (T.setTop f) acts (some w)).1 = T.setFrames fs) : Steps p.tables e below (T.setTop (mkF m pc Ls (w :: rest))) (T.setFrames fs) := by
  exact retOut X hx hret hn (Or.inr (Or.inr (Or.inr (Or.inr ⟨rfl, ht, hw⟩)))) hd hl
/-- the same where Strings may be interned meanwhile -/
def own_DoneW (p : Program) (e : Env) (below : List Frame) (s : State) (Z : State) (EL : List (String × Nat)) (Qo : Option Value → Heap → List Loc → Prop) (C N : Nat) (U : State) : Prop :=
  ∃ s₂ o, Steps p.tables e below U s₂ ∧ s₂.status = .running ∧ Ended s₂ below o ∧ (∃ v L, o = .returned v ∧ Qo v s₂.heap L ∧ CHr Z EL s.vm s.heap s₂.vm s₂.heap ∧ ReturnedEndW s o s₂ L C N)
theorem own_goW {Z : State} {EL : List (String × Nat)} {U U' : State} (h : ∀ t, Steps p.tables e below U' t → Steps p.tables e below U t) (d : own_DoneW p e below s Z EL Qo C N U') : own_DoneW p e below s Z EL Qo C N U := by
  obtain ⟨s₂, o, h1, h2⟩ := d
  exact ⟨s₂, o, h _ h1, h2⟩
theorem own_joinW {Z : State} {EL : List (String × Nat)} {U U' : State} (h : own_DoneW p e below s Z EL Qo C N U' → own_DoneW p e below s Z EL Qo C N U) (d : own_DoneW p e below s Z EL Qo C N U') : own_DoneW p e below s Z EL Qo C N U := h d
theorem own_retW {Z : State} {EL : List (String × Nat)} {vm₁ : Vm} (X : Stand p l e R (s.setVm vm₁) m args below meth c T locs cells slots) {n : Nat} (hS : s.Since vm₁ n) (hn : n ≤ T.heap.size) (hC : CHr Z EL s.vm s.heap T.vm T.heap) {v : Option Value} {g : JFrame} (hlk : meth.locks = false) (hv : meth.sig.returnType = none → v = none) (hCc : cells ≤ C) (hN : slots ≤ N)
    (st : ∀ fs, (∀ (f : JFrame) (acts : List Action), f.method = m → f.locked = none → f.entered = [] → (doReturn e (T.setTop f) acts v).1 = T.setFrames fs) → Steps p.tables e below (T.setTop g) (T.setFrames fs)) (hQ : Qo v T.heap locs) : own_DoneW p e below s Z EL Qo C N (T.setTop g) := by
  obtain ⟨fs, hr, hrun, hended, hE⟩ := X.leaveW hS hn (v := v) hv hlk
  exact ⟨_, _, st fs hr, hrun, hended, _, _, rfl, hQ, hC, hE.1, hE.2.1, hE.2.2.1, hE.2.2.2.mono hCc hN⟩
end Own

theorem d3_0 : decode method_3_code 0 = .ok (.iload_n 0, 1) := by decide +kernel
theorem d3_1 : decode method_3_code 1 = .ok (.sipush 192, 3) := by decide +kernel
theorem d3_4 : decode method_3_code 4 = .ok (.iand, 1) := by decide +kernel
theorem d3_5 : decode method_3_code 5 = .ok (.sipush 128, 3) := by decide +kernel
theorem d3_8 : decode method_3_code 8 = .ok (.if_icmp .ne 7, 3) := by decide +kernel
theorem d3_11 : decode method_3_code 11 = .ok (.iconst 1, 1) := by decide +kernel
theorem d3_12 : decode method_3_code 12 = .ok (.goto 4, 3) := by decide +kernel
theorem d3_16 : decode method_3_code 16 = .ok (.ireturn, 1) := by decide +kernel
theorem d3_15 : decode method_3_code 15 = .ok (.iconst 0, 1) := by decide +kernel
theorem own_pn0 : plainName "com/example/eunomia/eunomia/Utf8OutputEncodePinLaw" = true := by first | (simp [plainName, overriddenIn]; done) | decide +kernel
theorem own_ef3 (m : MethodId) (x0 : Int32) : entryFrame m #[(.int x0)] 1 = mkF m 0 #[.val (.int x0)] [] := by first | (simp [entryFrame, mkF, argsToLocals, Value.category]; done) | rfl
def f_3 (p0 : Int32) : Int32 := (if (p0 &&& (192 : Int32)) = (128 : Int32) then (1 : Int32) else (0 : Int32))
def Q3 (Z : State) (p0 : Int32) (h0 : Heap) (n0 : Nat) (v : Option Value) (h : Heap) (L : List Loc) : Prop := v = some (.int (f_3 p0)) ∧ Fr n0 L ∧ h = h0
set_option maxRecDepth 65536 in
set_option maxHeartbeats 40000000 in
theorem rm3 (l : Launch) (Z : State) (aw : Array Value) (hw : ∀ d ∈ tables_1, d.before aw Z = true) (ws : List Jvm.Cond) (p0 : Int32) (h0 : Heap) (n0 : Nat) (Z0 : n0 ≤ h0.size) :
    MetFree l (⟨"com/example/eunomia/eunomia/Utf8OutputEncodePinLaw", "cont", "(I)Z"⟩ : MethodName) (head1 (Jvm.Cond.code (⟨"com/example/eunomia/eunomia/Utf8OutputEncodePinLaw", "cont", "(I)Z"⟩ : MethodName) method_3_code 1 (some .boolean) :: ws) ({ frames := 0, cells := 0, slots := 0, locals := 0 } : Room)) (fun a U => a = #[(.int p0)] ∧ Z.Warmed39 U.vm ∧ U.heap = h0) (fun _ _ _ _ _ => True) (fun _ U o U' => ∃ v L, o = .returned v ∧ (Q3 Z p0 h0 n0) v U'.heap L ∧ FrameEnd U o U' L ({ frames := 0, cells := 0, slots := 0, locals := 0 } : Room).cells ({ frames := 0, cells := 0, slots := 0, locals := 0 } : Room).slots) := by
  refine MetFree.of_bodySF (plainFor_of_name own_pn0) hisR ?_
  intro p e s m args below meth c s₁ Bd hml0 hP hK
  obtain ⟨rfl, hZ, hh⟩ := hP
  have hx := Bd.exec
  have hby := Bd.bytes
  have hml : c.maxLocals = 1 := hml0
  have hown : s.vm.findClass "com/example/eunomia/eunomia/Utf8OutputEncodePinLaw" = some m.cls := findClass_of_methodNamed Bd.named
  have hnm := (name_of_methodNamed Bd.named Bd.method).1
  have hlk : meth.locks = false := BodyLoose.notSynchronized (by assumption)
  have X0 : Stand p l e ({ frames := 0, cells := 0, slots := 0, locals := 0 } : Room) s m #[(.int p0)] below meth c s₁ [] 0 0 := Stand.of_body Bd
  have e0 : s₁.heap = h0 := by rw [← hh, Bd.state]; rfl
  have N0 := Fr.nil n0
  show own_Done p e below s (Q3 Z p0 h0 n0) ({ frames := 0, cells := 0, slots := 0, locals := 0 } : Room).cells ({ frames := 0, cells := 0, slots := 0, locals := 0 } : Room).slots (s₁.setTop (entryFrame m #[(.int p0)] 1))
  refine own_go (U' := s₁.setTop (mkF m 0 #[.val (.int p0)] [])) (fun _ k => castTop (own_ef3 m p0) k) ?_
  refine own_go (U' := s₁.setTop (mkF m 1 #[.val (.int p0)] [(.int p0)])) (fun _ k => XS.iloadN X0.here hx rfl (hb hby d3_0) rfl k) ?_
  refine own_go (U' := s₁.setTop (mkF m 4 #[.val (.int p0)] [(.int (192 : Int32)), (.int p0)])) (fun _ k => XS.sipush X0.here hx rfl (hb hby d3_1) k) ?_
  refine own_go (U' := s₁.setTop (mkF m 5 #[.val (.int p0)] [(.int (p0 &&& (192 : Int32)))])) (fun _ k => XS.iand X0.here hx rfl (hb hby d3_4) rfl k) ?_
  refine own_go (U' := s₁.setTop (mkF m 8 #[.val (.int p0)] [(.int (128 : Int32)), (.int (p0 &&& (192 : Int32)))])) (fun _ k => XS.sipush X0.here hx rfl (hb hby d3_5) k) ?_
  by_cases hc8_1 : (p0 &&& (192 : Int32)) = (128 : Int32)
  · refine own_go (U' := s₁.setTop (mkF m 11 #[.val (.int p0)] [])) (fun _ k => XS.icmpNo X0.here hx rfl (hb hby d3_8) rfl (teq hc8_1).2 k) ?_
    refine own_go (U' := s₁.setTop (mkF m 12 #[.val (.int p0)] [(.int (1 : Int32))])) (fun _ k => XS.iconst X0.here hx rfl (hb hby d3_11) k) ?_
    refine own_go (U' := s₁.setTop (mkF m 16 #[.val (.int p0)] [(.int (1 : Int32))])) (fun _ k => XS.goto X0.here hx rfl (pc0 := 12) (pc' := 16) rfl (hb hby d3_12) (by decide) (by decide) k) ?_
    refine own_ret X0 (v := (some (.int (1 : Int32)))) hlk (fun h => by rw [Bd.returns] at h; cases h) (by decide) (by decide) (fun fs hr => retN X0 hx (t := .boolean) Bd.returns (by simp) (hb hby d3_16) hr) ?_
    show (Q3 Z p0 h0 n0) _ s₁.heap _
    rw [e0]
    exact ⟨by first | (simp only [f_3, if_pos hc8_1]; done) | rfl | (simp [f_3, if_pos hc8_1]; done), N0, rfl⟩
  · refine own_go (U' := s₁.setTop (mkF m 15 #[.val (.int p0)] [])) (fun _ k => XS.icmpYes X0.here hx rfl (pc0 := 8) (pc' := 15) rfl (hb hby d3_8) rfl (feq hc8_1).2 (by decide) (by decide) k) ?_
    refine own_go (U' := s₁.setTop (mkF m 16 #[.val (.int p0)] [(.int (0 : Int32))])) (fun _ k => XS.iconst X0.here hx rfl (hb hby d3_15) k) ?_
    refine own_ret X0 (v := (some (.int (0 : Int32)))) hlk (fun h => by rw [Bd.returns] at h; cases h) (by decide) (by decide) (fun fs hr => retN X0 hx (t := .boolean) Bd.returns (by simp) (hb hby d3_16) hr) ?_
    show (Q3 Z p0 h0 n0) _ s₁.heap _
    rw [e0]
    exact ⟨by first | (simp only [f_3, if_neg hc8_1]; done) | rfl | (simp [f_3, if_neg hc8_1]; done), N0, rfl⟩
theorem d2_0 : decode method_2_code 0 = .ok (.iload_n 1, 1) := by decide +kernel
theorem d2_1 : decode method_2_code 1 = .ok (.iload_n 2, 1) := by decide +kernel
theorem d2_2 : decode method_2_code 2 = .ok (.if_icmp .lt 12, 3) := by decide +kernel
theorem d2_14 : decode method_2_code 14 = .ok (.aload_n 0, 1) := by decide +kernel
theorem d2_15 : decode method_2_code 15 = .ok (.iload_n 1, 1) := by decide +kernel
theorem d2_16 : decode method_2_code 16 = .ok (.baload, 1) := by decide +kernel
theorem d2_17 : decode method_2_code 17 = .ok (.iload 4, 2) := by decide +kernel
theorem d2_19 : decode method_2_code 19 = .ok (.if_icmp .ne 7, 3) := by decide +kernel
theorem d2_22 : decode method_2_code 22 = .ok (.iconst 1, 1) := by decide +kernel
theorem d2_23 : decode method_2_code 23 = .ok (.goto 4, 3) := by decide +kernel
theorem d2_27 : decode method_2_code 27 = .ok (.ireturn, 1) := by decide +kernel
theorem d2_26 : decode method_2_code 26 = .ok (.iconst 0, 1) := by decide +kernel
theorem d2_5 : decode method_2_code 5 = .ok (.iload_n 1, 1) := by decide +kernel
theorem d2_6 : decode method_2_code 6 = .ok (.iload_n 2, 1) := by decide +kernel
theorem d2_7 : decode method_2_code 7 = .ok (.iload_n 3, 1) := by decide +kernel
theorem d2_8 : decode method_2_code 8 = .ok (.iadd, 1) := by decide +kernel
theorem d2_9 : decode method_2_code 9 = .ok (.if_icmp .ge 5, 3) := by decide +kernel
theorem d2_12 : decode method_2_code 12 = .ok (.iconst 1, 1) := by decide +kernel
theorem d2_13 : decode method_2_code 13 = .ok (.ireturn, 1) := by decide +kernel
theorem own_ef2 (m : MethodId) (x0 : Addr) (x1 : Int32) (x2 : Int32) (x3 : Int32) (x4 : Int32) : entryFrame m #[(.ref x0), (.int x1), (.int x2), (.int x3), (.int x4)] 5 = mkF m 0 #[.val (.ref x0), .val (.int x1), .val (.int x2), .val (.int x3), .val (.int x4)] [] := by first | (simp [entryFrame, mkF, argsToLocals, Value.category]; done) | rfl
def f_2 (a0 : Addr) (p1 : Int32) (p2 : Int32) (p3 : Int32) (p4 : Int32) (k1 : ClassId) (f : Int32 → Int32) : Int32 := (if p1 < p2 then (if (f p1) = p4 then (1 : Int32) else (0 : Int32)) else (if p1 < (p2 + p3) then (1 : Int32) else (if (f p1) = p4 then (1 : Int32) else (0 : Int32))))
def Q2 (Z : State) (a0 : Addr) (p1 : Int32) (p2 : Int32) (p3 : Int32) (p4 : Int32) (k1 : ClassId) (f : Int32 → Int32) (h0 : Heap) (n0 : Nat) (v : Option Value) (h : Heap) (L : List Loc) : Prop := v = some (.int (f_2 a0 p1 p2 p3 p4 k1 f)) ∧ Fr n0 L ∧ h = h0
set_option maxRecDepth 65536 in
set_option maxHeartbeats 40000000 in
theorem rm2 (l : Launch) (Z : State) (aw : Array Value) (hw : ∀ d ∈ tables_1, d.before aw Z = true) (ws : List Jvm.Cond) (a0 : Addr) (p1 : Int32) (p2 : Int32) (p3 : Int32) (p4 : Int32) (k1 : ClassId) (f : Int32 → Int32) (h0 : Heap) (n0 : Nat) (Z0 : n0 ≤ h0.size) (V_a : own_Arf Z h0 a0 k1 .byte (8 : Int32) f) (hi : ¬ (p1 < (0 : Int32))) (hi8 : p1 < (8 : Int32)) :
    MetFree l (⟨"com/example/eunomia/eunomia/Utf8OutputEncodePinLaw", "untouched", "([BIIIB)Z"⟩ : MethodName) (head1 (Jvm.Cond.code (⟨"com/example/eunomia/eunomia/Utf8OutputEncodePinLaw", "untouched", "([BIIIB)Z"⟩ : MethodName) method_2_code 5 (some .boolean) :: ws) ({ frames := 0, cells := 0, slots := 0, locals := 0 } : Room)) (fun a U => a = #[(.ref a0), (.int p1), (.int p2), (.int p3), (.int p4)] ∧ Z.Warmed39 U.vm ∧ U.heap = h0) (fun _ _ _ _ _ => True) (fun _ U o U' => ∃ v L, o = .returned v ∧ (Q2 Z a0 p1 p2 p3 p4 k1 f h0 n0) v U'.heap L ∧ FrameEnd U o U' L ({ frames := 0, cells := 0, slots := 0, locals := 0 } : Room).cells ({ frames := 0, cells := 0, slots := 0, locals := 0 } : Room).slots) := by
  refine MetFree.of_bodySF (plainFor_of_name own_pn0) hisR ?_
  intro p e s m args below meth c s₁ Bd hml0 hP hK
  obtain ⟨rfl, hZ, hh⟩ := hP
  have hx := Bd.exec
  have hby := Bd.bytes
  have hml : c.maxLocals = 5 := hml0
  have hown : s.vm.findClass "com/example/eunomia/eunomia/Utf8OutputEncodePinLaw" = some m.cls := findClass_of_methodNamed Bd.named
  have hnm := (name_of_methodNamed Bd.named Bd.method).1
  have hlk : meth.locks = false := BodyLoose.notSynchronized (by assumption)
  have X0 : Stand p l e ({ frames := 0, cells := 0, slots := 0, locals := 0 } : Room) s m #[(.ref a0), (.int p1), (.int p2), (.int p3), (.int p4)] below meth c s₁ [] 0 0 := Stand.of_body Bd
  have e0 : s₁.heap = h0 := by rw [← hh, Bd.state]; rfl
  have N0 := Fr.nil n0
  show own_Done p e below s (Q2 Z a0 p1 p2 p3 p4 k1 f h0 n0) ({ frames := 0, cells := 0, slots := 0, locals := 0 } : Room).cells ({ frames := 0, cells := 0, slots := 0, locals := 0 } : Room).slots (s₁.setTop (entryFrame m #[(.ref a0), (.int p1), (.int p2), (.int p3), (.int p4)] 5))
  refine own_go (U' := s₁.setTop (mkF m 0 #[.val (.ref a0), .val (.int p1), .val (.int p2), .val (.int p3), .val (.int p4)] [])) (fun _ k => castTop (own_ef2 m a0 p1 p2 p3 p4) k) ?_
  refine own_go (U' := s₁.setTop (mkF m 1 #[.val (.ref a0), .val (.int p1), .val (.int p2), .val (.int p3), .val (.int p4)] [(.int p1)])) (fun _ k => XS.iloadN X0.here hx rfl (hb hby d2_0) rfl k) ?_
  refine own_go (U' := s₁.setTop (mkF m 2 #[.val (.ref a0), .val (.int p1), .val (.int p2), .val (.int p3), .val (.int p4)] [(.int p2), (.int p1)])) (fun _ k => XS.iloadN X0.here hx rfl (hb hby d2_1) rfl k) ?_
  by_cases hc2_2 : p1 < p2
  · refine own_go (U' := s₁.setTop (mkF m 14 #[.val (.ref a0), .val (.int p1), .val (.int p2), .val (.int p3), .val (.int p4)] [])) (fun _ k => XS.icmpYes X0.here hx rfl (pc0 := 2) (pc' := 14) rfl (hb hby d2_2) rfl (tlt hc2_2).1 (by decide) (by decide) k) ?_
    refine own_go (U' := s₁.setTop (mkF m 15 #[.val (.ref a0), .val (.int p1), .val (.int p2), .val (.int p3), .val (.int p4)] [(.ref a0)])) (fun _ k => XS.aloadN X0.here hx rfl (hb hby d2_14) rfl rfl k) ?_
    refine own_go (U' := s₁.setTop (mkF m 16 #[.val (.ref a0), .val (.int p1), .val (.int p2), .val (.int p3), .val (.int p4)] [(.int p1), (.ref a0)])) (fun _ k => XS.iloadN X0.here hx rfl (hb hby d2_15) rfl k) ?_
    have V3 := V_a
    obtain ⟨cl3, Ar3, q3, S3, Ng3, Hh3⟩ := V3
    have hj3 : ¬ p1 < 0 ∧ p1 < (8 : Int32) := ⟨hi, hi8⟩
    have hat3 := Hh3 _ hj3.1 hj3.2
    refine own_go (U' := s₁.setTop (mkF m 17 #[.val (.ref a0), .val (.int p1), .val (.int p2), .val (.int p3), .val (.int p4)] [(.int (f p1))])) (fun _ k => X0.baloadBytes hx (j := p1) (v := (.int (f p1))) (own_cell e0 Ar3.1) (State.isArrayOf_alike hZ.alike Ar3.2.1) Ar3.2.2 (inb_of S3 hj3) hat3 (g := (mkF m 16 #[.val (.ref a0), .val (.int p1), .val (.int p2), .val (.int p3), .val (.int p4)] [(.int p1), (.ref a0)])) rfl rfl (hb hby d2_16) _ k) ?_
    refine own_go (U' := s₁.setTop (mkF m 19 #[.val (.ref a0), .val (.int p1), .val (.int p2), .val (.int p3), .val (.int p4)] [(.int p4), (.int (f p1))])) (fun _ k => XS.iload X0.here hx rfl (hb hby d2_17) rfl k) ?_
    by_cases hc19_4 : (f p1) = p4
    · refine own_go (U' := s₁.setTop (mkF m 22 #[.val (.ref a0), .val (.int p1), .val (.int p2), .val (.int p3), .val (.int p4)] [])) (fun _ k => XS.icmpNo X0.here hx rfl (hb hby d2_19) rfl (teq hc19_4).2 k) ?_
      refine own_go (U' := s₁.setTop (mkF m 23 #[.val (.ref a0), .val (.int p1), .val (.int p2), .val (.int p3), .val (.int p4)] [(.int (1 : Int32))])) (fun _ k => XS.iconst X0.here hx rfl (hb hby d2_22) k) ?_
      refine own_go (U' := s₁.setTop (mkF m 27 #[.val (.ref a0), .val (.int p1), .val (.int p2), .val (.int p3), .val (.int p4)] [(.int (1 : Int32))])) (fun _ k => XS.goto X0.here hx rfl (pc0 := 23) (pc' := 27) rfl (hb hby d2_23) (by decide) (by decide) k) ?_
      refine own_ret X0 (v := (some (.int (1 : Int32)))) hlk (fun h => by rw [Bd.returns] at h; cases h) (by decide) (by decide) (fun fs hr => retN X0 hx (t := .boolean) Bd.returns (by simp) (hb hby d2_27) hr) ?_
      show (Q2 Z a0 p1 p2 p3 p4 k1 f h0 n0) _ s₁.heap _
      rw [e0]
      exact ⟨by first | (simp only [f_2, if_pos hc2_2, if_pos hc19_4]; done) | rfl | (simp [f_2, if_pos hc2_2, if_pos hc19_4]; done), N0, rfl⟩
    · refine own_go (U' := s₁.setTop (mkF m 26 #[.val (.ref a0), .val (.int p1), .val (.int p2), .val (.int p3), .val (.int p4)] [])) (fun _ k => XS.icmpYes X0.here hx rfl (pc0 := 19) (pc' := 26) rfl (hb hby d2_19) rfl (feq hc19_4).2 (by decide) (by decide) k) ?_
      refine own_go (U' := s₁.setTop (mkF m 27 #[.val (.ref a0), .val (.int p1), .val (.int p2), .val (.int p3), .val (.int p4)] [(.int (0 : Int32))])) (fun _ k => XS.iconst X0.here hx rfl (hb hby d2_26) k) ?_
      refine own_ret X0 (v := (some (.int (0 : Int32)))) hlk (fun h => by rw [Bd.returns] at h; cases h) (by decide) (by decide) (fun fs hr => retN X0 hx (t := .boolean) Bd.returns (by simp) (hb hby d2_27) hr) ?_
      show (Q2 Z a0 p1 p2 p3 p4 k1 f h0 n0) _ s₁.heap _
      rw [e0]
      exact ⟨by first | (simp only [f_2, if_pos hc2_2, if_neg hc19_4]; done) | rfl | (simp [f_2, if_pos hc2_2, if_neg hc19_4]; done), N0, rfl⟩
  · refine own_go (U' := s₁.setTop (mkF m 5 #[.val (.ref a0), .val (.int p1), .val (.int p2), .val (.int p3), .val (.int p4)] [])) (fun _ k => XS.icmpNo X0.here hx rfl (hb hby d2_2) rfl (flt hc2_2).1 k) ?_
    refine own_go (U' := s₁.setTop (mkF m 6 #[.val (.ref a0), .val (.int p1), .val (.int p2), .val (.int p3), .val (.int p4)] [(.int p1)])) (fun _ k => XS.iloadN X0.here hx rfl (hb hby d2_5) rfl k) ?_
    refine own_go (U' := s₁.setTop (mkF m 7 #[.val (.ref a0), .val (.int p1), .val (.int p2), .val (.int p3), .val (.int p4)] [(.int p2), (.int p1)])) (fun _ k => XS.iloadN X0.here hx rfl (hb hby d2_6) rfl k) ?_
    refine own_go (U' := s₁.setTop (mkF m 8 #[.val (.ref a0), .val (.int p1), .val (.int p2), .val (.int p3), .val (.int p4)] [(.int p3), (.int p2), (.int p1)])) (fun _ k => XS.iloadN X0.here hx rfl (hb hby d2_7) rfl k) ?_
    refine own_go (U' := s₁.setTop (mkF m 9 #[.val (.ref a0), .val (.int p1), .val (.int p2), .val (.int p3), .val (.int p4)] [(.int (p2 + p3)), (.int p1)])) (fun _ k => XS.iadd X0.here hx rfl (hb hby d2_8) rfl k) ?_
    by_cases hc9_5 : p1 < (p2 + p3)
    · refine own_go (U' := s₁.setTop (mkF m 12 #[.val (.ref a0), .val (.int p1), .val (.int p2), .val (.int p3), .val (.int p4)] [])) (fun _ k => XS.icmpNo X0.here hx rfl (hb hby d2_9) rfl (tlt hc9_5).2.1 k) ?_
      refine own_go (U' := s₁.setTop (mkF m 13 #[.val (.ref a0), .val (.int p1), .val (.int p2), .val (.int p3), .val (.int p4)] [(.int (1 : Int32))])) (fun _ k => XS.iconst X0.here hx rfl (hb hby d2_12) k) ?_
      refine own_ret X0 (v := (some (.int (1 : Int32)))) hlk (fun h => by rw [Bd.returns] at h; cases h) (by decide) (by decide) (fun fs hr => retN X0 hx (t := .boolean) Bd.returns (by simp) (hb hby d2_13) hr) ?_
      show (Q2 Z a0 p1 p2 p3 p4 k1 f h0 n0) _ s₁.heap _
      rw [e0]
      exact ⟨by first | (simp only [f_2, if_neg hc2_2, if_pos hc9_5]; done) | rfl | (simp [f_2, if_neg hc2_2, if_pos hc9_5]; done), N0, rfl⟩
    · refine own_go (U' := s₁.setTop (mkF m 14 #[.val (.ref a0), .val (.int p1), .val (.int p2), .val (.int p3), .val (.int p4)] [])) (fun _ k => XS.icmpYes X0.here hx rfl (pc0 := 9) (pc' := 14) rfl (hb hby d2_9) rfl (flt hc9_5).2.1 (by decide) (by decide) k) ?_
      refine own_go (U' := s₁.setTop (mkF m 15 #[.val (.ref a0), .val (.int p1), .val (.int p2), .val (.int p3), .val (.int p4)] [(.ref a0)])) (fun _ k => XS.aloadN X0.here hx rfl (hb hby d2_14) rfl rfl k) ?_
      refine own_go (U' := s₁.setTop (mkF m 16 #[.val (.ref a0), .val (.int p1), .val (.int p2), .val (.int p3), .val (.int p4)] [(.int p1), (.ref a0)])) (fun _ k => XS.iloadN X0.here hx rfl (hb hby d2_15) rfl k) ?_
      have V6 := V_a
      obtain ⟨cl6, Ar6, q6, S6, Ng6, Hh6⟩ := V6
      have hj6 : ¬ p1 < 0 ∧ p1 < (8 : Int32) := ⟨hi, hi8⟩
      have hat6 := Hh6 _ hj6.1 hj6.2
      refine own_go (U' := s₁.setTop (mkF m 17 #[.val (.ref a0), .val (.int p1), .val (.int p2), .val (.int p3), .val (.int p4)] [(.int (f p1))])) (fun _ k => X0.baloadBytes hx (j := p1) (v := (.int (f p1))) (own_cell e0 Ar6.1) (State.isArrayOf_alike hZ.alike Ar6.2.1) Ar6.2.2 (inb_of S6 hj6) hat6 (g := (mkF m 16 #[.val (.ref a0), .val (.int p1), .val (.int p2), .val (.int p3), .val (.int p4)] [(.int p1), (.ref a0)])) rfl rfl (hb hby d2_16) _ k) ?_
      refine own_go (U' := s₁.setTop (mkF m 19 #[.val (.ref a0), .val (.int p1), .val (.int p2), .val (.int p3), .val (.int p4)] [(.int p4), (.int (f p1))])) (fun _ k => XS.iload X0.here hx rfl (hb hby d2_17) rfl k) ?_
      by_cases hc19_7 : (f p1) = p4
      · refine own_go (U' := s₁.setTop (mkF m 22 #[.val (.ref a0), .val (.int p1), .val (.int p2), .val (.int p3), .val (.int p4)] [])) (fun _ k => XS.icmpNo X0.here hx rfl (hb hby d2_19) rfl (teq hc19_7).2 k) ?_
        refine own_go (U' := s₁.setTop (mkF m 23 #[.val (.ref a0), .val (.int p1), .val (.int p2), .val (.int p3), .val (.int p4)] [(.int (1 : Int32))])) (fun _ k => XS.iconst X0.here hx rfl (hb hby d2_22) k) ?_
        refine own_go (U' := s₁.setTop (mkF m 27 #[.val (.ref a0), .val (.int p1), .val (.int p2), .val (.int p3), .val (.int p4)] [(.int (1 : Int32))])) (fun _ k => XS.goto X0.here hx rfl (pc0 := 23) (pc' := 27) rfl (hb hby d2_23) (by decide) (by decide) k) ?_
        refine own_ret X0 (v := (some (.int (1 : Int32)))) hlk (fun h => by rw [Bd.returns] at h; cases h) (by decide) (by decide) (fun fs hr => retN X0 hx (t := .boolean) Bd.returns (by simp) (hb hby d2_27) hr) ?_
        show (Q2 Z a0 p1 p2 p3 p4 k1 f h0 n0) _ s₁.heap _
        rw [e0]
        exact ⟨by first | (simp only [f_2, if_neg hc2_2, if_neg hc9_5, if_pos hc19_7]; done) | rfl | (simp [f_2, if_neg hc2_2, if_neg hc9_5, if_pos hc19_7]; done), N0, rfl⟩
      · refine own_go (U' := s₁.setTop (mkF m 26 #[.val (.ref a0), .val (.int p1), .val (.int p2), .val (.int p3), .val (.int p4)] [])) (fun _ k => XS.icmpYes X0.here hx rfl (pc0 := 19) (pc' := 26) rfl (hb hby d2_19) rfl (feq hc19_7).2 (by decide) (by decide) k) ?_
        refine own_go (U' := s₁.setTop (mkF m 27 #[.val (.ref a0), .val (.int p1), .val (.int p2), .val (.int p3), .val (.int p4)] [(.int (0 : Int32))])) (fun _ k => XS.iconst X0.here hx rfl (hb hby d2_26) k) ?_
        refine own_ret X0 (v := (some (.int (0 : Int32)))) hlk (fun h => by rw [Bd.returns] at h; cases h) (by decide) (by decide) (fun fs hr => retN X0 hx (t := .boolean) Bd.returns (by simp) (hb hby d2_27) hr) ?_
        show (Q2 Z a0 p1 p2 p3 p4 k1 f h0 n0) _ s₁.heap _
        rw [e0]
        exact ⟨by first | (simp only [f_2, if_neg hc2_2, if_neg hc9_5, if_neg hc19_7]; done) | rfl | (simp [f_2, if_neg hc2_2, if_neg hc9_5, if_neg hc19_7]; done), N0, rfl⟩

abbrev own_b (x : Int32) : Int32 := x.toInt8.toInt32.toInt8.toInt32
def own_set (f : Int32 → Int32) (j v : Int32) : Int32 → Int32 := fun i => if i = j then v else f i
def own_enc (c t : Int32) (f : Int32 → Int32) : Int32 → Int32 :=
  if c < 2048 then own_set (own_set f t (own_b ((192 : Int32) ||| (c >>> ((6 : Int32) &&& 31))))) (t + 1) (own_b ((128 : Int32) ||| (c &&& 63)))
  else if c < 65536 then own_set (own_set (own_set f t (own_b ((224 : Int32) ||| (c >>> ((12 : Int32) &&& 31))))) (t + 1) (own_b ((128 : Int32) ||| ((c >>> ((6 : Int32) &&& 31)) &&& 63)))) (t + 2) (own_b ((128 : Int32) ||| (c &&& 63)))
  else own_set (own_set (own_set (own_set f t (own_b ((240 : Int32) ||| (c >>> ((18 : Int32) &&& 31))))) (t + 1) (own_b ((128 : Int32) ||| ((c >>> ((12 : Int32) &&& 31)) &&& 63)))) (t + 2) (own_b ((128 : Int32) ||| ((c >>> ((6 : Int32) &&& 31)) &&& 63)))) (t + 3) (own_b ((128 : Int32) ||| (c &&& 63)))
def own_r (c t : Int32) : Int32 := if c < 2048 then t + 2 else if c < 65536 then t + 3 else t + 4
theorem own_tt {t : Int32} (h : ¬ t < 0) (h2 : t < 4) : (¬ t < 0 ∧ t < 8) ∧ (¬ t + 1 < 0 ∧ t + 1 < 8) ∧ (¬ t + 2 < 0 ∧ t + 2 < 8) ∧ (¬ t + 3 < 0 ∧ t + 3 < 8) := by
  have k0 : (0 : Int32).toInt = 0 := by decide
  have k1 : (1 : Int32).toInt = 1 := by decide
  have k2 : (2 : Int32).toInt = 2 := by decide
  have k3 : (3 : Int32).toInt = 3 := by decide
  have k4 : (4 : Int32).toInt = 4 := by decide
  have k8 : (8 : Int32).toInt = 8 := by decide
  have a1 := c_iadd t 1
  have a2 := c_iadd t 2
  have a3 := c_iadd t 3
  have r1 := rng32 (t + 1)
  have r2 := rng32 (t + 2)
  have r3 := rng32 (t + 3)
  simp only [Int32.lt_iff_toInt_lt, k0, k4, k8] at *
  omega

theorem d1_0 : decode prog_30_method_14_code 0 = .ok (.iload_n 0, 1) := by decide +kernel
theorem d1_1 : decode prog_30_method_14_code 1 = .ok (.sipush 2048, 3) := by decide +kernel
theorem d1_4 : decode prog_30_method_14_code 4 = .ok (.if_icmp .ge 33, 3) := by decide +kernel
theorem d1_7 : decode prog_30_method_14_code 7 = .ok (.aload_n 1, 1) := by decide +kernel
theorem d1_8 : decode prog_30_method_14_code 8 = .ok (.iload_n 2, 1) := by decide +kernel
theorem d1_9 : decode prog_30_method_14_code 9 = .ok (.sipush 192, 3) := by decide +kernel
theorem d1_12 : decode prog_30_method_14_code 12 = .ok (.iload_n 0, 1) := by decide +kernel
theorem d1_13 : decode prog_30_method_14_code 13 = .ok (.bipush 6, 2) := by decide +kernel
theorem d1_15 : decode prog_30_method_14_code 15 = .ok (.ishr, 1) := by decide +kernel
theorem d1_16 : decode prog_30_method_14_code 16 = .ok (.ior, 1) := by decide +kernel
theorem d1_17 : decode prog_30_method_14_code 17 = .ok (.i2b, 1) := by decide +kernel
theorem d1_18 : decode prog_30_method_14_code 18 = .ok (.bastore, 1) := by decide +kernel
theorem d1_19 : decode prog_30_method_14_code 19 = .ok (.aload_n 1, 1) := by decide +kernel
theorem d1_20 : decode prog_30_method_14_code 20 = .ok (.iload_n 2, 1) := by decide +kernel
theorem d1_21 : decode prog_30_method_14_code 21 = .ok (.iconst 1, 1) := by decide +kernel
theorem d1_22 : decode prog_30_method_14_code 22 = .ok (.iadd, 1) := by decide +kernel
theorem d1_23 : decode prog_30_method_14_code 23 = .ok (.sipush 128, 3) := by decide +kernel
theorem d1_26 : decode prog_30_method_14_code 26 = .ok (.iload_n 0, 1) := by decide +kernel
theorem d1_27 : decode prog_30_method_14_code 27 = .ok (.bipush 63, 2) := by decide +kernel
theorem d1_29 : decode prog_30_method_14_code 29 = .ok (.iand, 1) := by decide +kernel
theorem d1_30 : decode prog_30_method_14_code 30 = .ok (.ior, 1) := by decide +kernel
theorem d1_31 : decode prog_30_method_14_code 31 = .ok (.i2b, 1) := by decide +kernel
theorem d1_32 : decode prog_30_method_14_code 32 = .ok (.bastore, 1) := by decide +kernel
theorem d1_33 : decode prog_30_method_14_code 33 = .ok (.iload_n 2, 1) := by decide +kernel
theorem d1_34 : decode prog_30_method_14_code 34 = .ok (.iconst 2, 1) := by decide +kernel
theorem d1_35 : decode prog_30_method_14_code 35 = .ok (.iadd, 1) := by decide +kernel
theorem d1_36 : decode prog_30_method_14_code 36 = .ok (.ireturn, 1) := by decide +kernel
theorem d1_37 : decode prog_30_method_14_code 37 = .ok (.iload_n 0, 1) := by decide +kernel
theorem d1_38 : decode prog_30_method_14_code 38 = .ok (.ldc 148, 2) := by decide +kernel
theorem d1_40 : decode prog_30_method_14_code 40 = .ok (.if_icmp .ge 50, 3) := by decide +kernel
theorem d1_43 : decode prog_30_method_14_code 43 = .ok (.aload_n 1, 1) := by decide +kernel
theorem d1_44 : decode prog_30_method_14_code 44 = .ok (.iload_n 2, 1) := by decide +kernel
theorem d1_45 : decode prog_30_method_14_code 45 = .ok (.sipush 224, 3) := by decide +kernel
theorem d1_48 : decode prog_30_method_14_code 48 = .ok (.iload_n 0, 1) := by decide +kernel
theorem d1_49 : decode prog_30_method_14_code 49 = .ok (.bipush 12, 2) := by decide +kernel
theorem d1_51 : decode prog_30_method_14_code 51 = .ok (.ishr, 1) := by decide +kernel
theorem d1_52 : decode prog_30_method_14_code 52 = .ok (.ior, 1) := by decide +kernel
theorem d1_53 : decode prog_30_method_14_code 53 = .ok (.i2b, 1) := by decide +kernel
theorem d1_54 : decode prog_30_method_14_code 54 = .ok (.bastore, 1) := by decide +kernel
theorem d1_55 : decode prog_30_method_14_code 55 = .ok (.aload_n 1, 1) := by decide +kernel
theorem d1_56 : decode prog_30_method_14_code 56 = .ok (.iload_n 2, 1) := by decide +kernel
theorem d1_57 : decode prog_30_method_14_code 57 = .ok (.iconst 1, 1) := by decide +kernel
theorem d1_58 : decode prog_30_method_14_code 58 = .ok (.iadd, 1) := by decide +kernel
theorem d1_59 : decode prog_30_method_14_code 59 = .ok (.sipush 128, 3) := by decide +kernel
theorem d1_62 : decode prog_30_method_14_code 62 = .ok (.iload_n 0, 1) := by decide +kernel
theorem d1_63 : decode prog_30_method_14_code 63 = .ok (.bipush 6, 2) := by decide +kernel
theorem d1_65 : decode prog_30_method_14_code 65 = .ok (.ishr, 1) := by decide +kernel
theorem d1_66 : decode prog_30_method_14_code 66 = .ok (.bipush 63, 2) := by decide +kernel
theorem d1_68 : decode prog_30_method_14_code 68 = .ok (.iand, 1) := by decide +kernel
theorem d1_69 : decode prog_30_method_14_code 69 = .ok (.ior, 1) := by decide +kernel
theorem d1_70 : decode prog_30_method_14_code 70 = .ok (.i2b, 1) := by decide +kernel
theorem d1_71 : decode prog_30_method_14_code 71 = .ok (.bastore, 1) := by decide +kernel
theorem d1_72 : decode prog_30_method_14_code 72 = .ok (.aload_n 1, 1) := by decide +kernel
theorem d1_73 : decode prog_30_method_14_code 73 = .ok (.iload_n 2, 1) := by decide +kernel
theorem d1_74 : decode prog_30_method_14_code 74 = .ok (.iconst 2, 1) := by decide +kernel
theorem d1_75 : decode prog_30_method_14_code 75 = .ok (.iadd, 1) := by decide +kernel
theorem d1_76 : decode prog_30_method_14_code 76 = .ok (.sipush 128, 3) := by decide +kernel
theorem d1_79 : decode prog_30_method_14_code 79 = .ok (.iload_n 0, 1) := by decide +kernel
theorem d1_80 : decode prog_30_method_14_code 80 = .ok (.bipush 63, 2) := by decide +kernel
theorem d1_82 : decode prog_30_method_14_code 82 = .ok (.iand, 1) := by decide +kernel
theorem d1_83 : decode prog_30_method_14_code 83 = .ok (.ior, 1) := by decide +kernel
theorem d1_84 : decode prog_30_method_14_code 84 = .ok (.i2b, 1) := by decide +kernel
theorem d1_85 : decode prog_30_method_14_code 85 = .ok (.bastore, 1) := by decide +kernel
theorem d1_86 : decode prog_30_method_14_code 86 = .ok (.iload_n 2, 1) := by decide +kernel
theorem d1_87 : decode prog_30_method_14_code 87 = .ok (.iconst 3, 1) := by decide +kernel
theorem d1_88 : decode prog_30_method_14_code 88 = .ok (.iadd, 1) := by decide +kernel
theorem d1_89 : decode prog_30_method_14_code 89 = .ok (.ireturn, 1) := by decide +kernel
theorem d1_90 : decode prog_30_method_14_code 90 = .ok (.aload_n 1, 1) := by decide +kernel
theorem d1_91 : decode prog_30_method_14_code 91 = .ok (.iload_n 2, 1) := by decide +kernel
theorem d1_92 : decode prog_30_method_14_code 92 = .ok (.sipush 240, 3) := by decide +kernel
theorem d1_95 : decode prog_30_method_14_code 95 = .ok (.iload_n 0, 1) := by decide +kernel
theorem d1_96 : decode prog_30_method_14_code 96 = .ok (.bipush 18, 2) := by decide +kernel
theorem d1_98 : decode prog_30_method_14_code 98 = .ok (.ishr, 1) := by decide +kernel
theorem d1_99 : decode prog_30_method_14_code 99 = .ok (.ior, 1) := by decide +kernel
theorem d1_100 : decode prog_30_method_14_code 100 = .ok (.i2b, 1) := by decide +kernel
theorem d1_101 : decode prog_30_method_14_code 101 = .ok (.bastore, 1) := by decide +kernel
theorem d1_102 : decode prog_30_method_14_code 102 = .ok (.aload_n 1, 1) := by decide +kernel
theorem d1_103 : decode prog_30_method_14_code 103 = .ok (.iload_n 2, 1) := by decide +kernel
theorem d1_104 : decode prog_30_method_14_code 104 = .ok (.iconst 1, 1) := by decide +kernel
theorem d1_105 : decode prog_30_method_14_code 105 = .ok (.iadd, 1) := by decide +kernel
theorem d1_106 : decode prog_30_method_14_code 106 = .ok (.sipush 128, 3) := by decide +kernel
theorem d1_109 : decode prog_30_method_14_code 109 = .ok (.iload_n 0, 1) := by decide +kernel
theorem d1_110 : decode prog_30_method_14_code 110 = .ok (.bipush 12, 2) := by decide +kernel
theorem d1_112 : decode prog_30_method_14_code 112 = .ok (.ishr, 1) := by decide +kernel
theorem d1_113 : decode prog_30_method_14_code 113 = .ok (.bipush 63, 2) := by decide +kernel
theorem d1_115 : decode prog_30_method_14_code 115 = .ok (.iand, 1) := by decide +kernel
theorem d1_116 : decode prog_30_method_14_code 116 = .ok (.ior, 1) := by decide +kernel
theorem d1_117 : decode prog_30_method_14_code 117 = .ok (.i2b, 1) := by decide +kernel
theorem d1_118 : decode prog_30_method_14_code 118 = .ok (.bastore, 1) := by decide +kernel
theorem d1_119 : decode prog_30_method_14_code 119 = .ok (.aload_n 1, 1) := by decide +kernel
theorem d1_120 : decode prog_30_method_14_code 120 = .ok (.iload_n 2, 1) := by decide +kernel
theorem d1_121 : decode prog_30_method_14_code 121 = .ok (.iconst 2, 1) := by decide +kernel
theorem d1_122 : decode prog_30_method_14_code 122 = .ok (.iadd, 1) := by decide +kernel
theorem d1_123 : decode prog_30_method_14_code 123 = .ok (.sipush 128, 3) := by decide +kernel
theorem d1_126 : decode prog_30_method_14_code 126 = .ok (.iload_n 0, 1) := by decide +kernel
theorem d1_127 : decode prog_30_method_14_code 127 = .ok (.bipush 6, 2) := by decide +kernel
theorem d1_129 : decode prog_30_method_14_code 129 = .ok (.ishr, 1) := by decide +kernel
theorem d1_130 : decode prog_30_method_14_code 130 = .ok (.bipush 63, 2) := by decide +kernel
theorem d1_132 : decode prog_30_method_14_code 132 = .ok (.iand, 1) := by decide +kernel
theorem d1_133 : decode prog_30_method_14_code 133 = .ok (.ior, 1) := by decide +kernel
theorem d1_134 : decode prog_30_method_14_code 134 = .ok (.i2b, 1) := by decide +kernel
theorem d1_135 : decode prog_30_method_14_code 135 = .ok (.bastore, 1) := by decide +kernel
theorem d1_136 : decode prog_30_method_14_code 136 = .ok (.aload_n 1, 1) := by decide +kernel
theorem d1_137 : decode prog_30_method_14_code 137 = .ok (.iload_n 2, 1) := by decide +kernel
theorem d1_138 : decode prog_30_method_14_code 138 = .ok (.iconst 3, 1) := by decide +kernel
theorem d1_139 : decode prog_30_method_14_code 139 = .ok (.iadd, 1) := by decide +kernel
theorem d1_140 : decode prog_30_method_14_code 140 = .ok (.sipush 128, 3) := by decide +kernel
theorem d1_143 : decode prog_30_method_14_code 143 = .ok (.iload_n 0, 1) := by decide +kernel
theorem d1_144 : decode prog_30_method_14_code 144 = .ok (.bipush 63, 2) := by decide +kernel
theorem d1_146 : decode prog_30_method_14_code 146 = .ok (.iand, 1) := by decide +kernel
theorem d1_147 : decode prog_30_method_14_code 147 = .ok (.ior, 1) := by decide +kernel
theorem d1_148 : decode prog_30_method_14_code 148 = .ok (.i2b, 1) := by decide +kernel
theorem d1_149 : decode prog_30_method_14_code 149 = .ok (.bastore, 1) := by decide +kernel
theorem d1_150 : decode prog_30_method_14_code 150 = .ok (.iload_n 2, 1) := by decide +kernel
theorem d1_151 : decode prog_30_method_14_code 151 = .ok (.iconst 4, 1) := by decide +kernel
theorem d1_152 : decode prog_30_method_14_code 152 = .ok (.iadd, 1) := by decide +kernel
theorem d1_153 : decode prog_30_method_14_code 153 = .ok (.ireturn, 1) := by decide +kernel
theorem own_pn1 : plainName "com/example/eunomia/eunomia/Utf8Output" = true := by first | (simp [plainName, overriddenIn]; done) | decide +kernel
theorem own_ef1 (m : MethodId) (x0 : Int32) (x1 : Addr) (x2 : Int32) : entryFrame m #[(.int x0), (.ref x1), (.int x2)] 3 = mkF m 0 #[.val (.int x0), .val (.ref x1), .val (.int x2)] [] := by first | (simp [entryFrame, mkF, argsToLocals, Value.category]; done) | rfl
def Q1 (Z : State) (p0 : Int32) (a1 : Addr) (p2 : Int32) (k1 : ClassId) (f : Int32 → Int32) (h0 : Heap) (n0 : Nat) (v : Option Value) (h : Heap) (L : List Loc) : Prop := v = some (.int (own_r p0 p2)) ∧ Fr n0 L ∧ Keep h0 h [a1] ∧ own_Arf Z h a1 k1 .byte (8 : Int32) (own_enc p0 p2 f)
set_option maxRecDepth 65536 in
set_option maxHeartbeats 40000000 in
theorem rm1 (l : Launch) (Z : State) (aw : Array Value) (hw : ∀ d ∈ tables_1, d.before aw Z = true) (ws : List Jvm.Cond) (p0 : Int32) (a1 : Addr) (p2 : Int32) (k1 : ClassId) (f : Int32 → Int32) (h0 : Heap) (n0 : Nat) (Z0 : n0 ≤ h0.size) (V_a : own_Arf Z h0 a1 k1 .byte (8 : Int32) f) (g_a1 : n0 ≤ a1) (ht : ¬ (p2 < (0 : Int32))) (ht4 : p2 < (4 : Int32)) :
    MetFree l (⟨"com/example/eunomia/eunomia/Utf8Output", "encode", "(I[BI)I"⟩ : MethodName) (head1 (Jvm.Cond.code (⟨"com/example/eunomia/eunomia/Utf8Output", "encode", "(I[BI)I"⟩ : MethodName) prog_30_method_14_code 3 (some .int) :: ws) ({ frames := 0, cells := 0, slots := 0, locals := 0 } : Room)) (fun a U => a = #[(.int p0), (.ref a1), (.int p2)] ∧ Z.Warmed39 U.vm ∧ U.heap = h0) (fun _ _ _ _ _ => True) (fun _ U o U' => ∃ v L, o = .returned v ∧ (Q1 Z p0 a1 p2 k1 f h0 n0) v U'.heap L ∧ FrameEnd U o U' L ({ frames := 0, cells := 0, slots := 0, locals := 0 } : Room).cells ({ frames := 0, cells := 0, slots := 0, locals := 0 } : Room).slots) := by
  refine MetFree.of_bodySF (plainFor_of_name own_pn1) hisR ?_
  intro p e s m args below meth c s₁ Bd hml0 hP hK
  obtain ⟨rfl, hZ, hh⟩ := hP
  have hx := Bd.exec
  have hby := Bd.bytes
  have hml : c.maxLocals = 3 := hml0
  have hown : s.vm.findClass "com/example/eunomia/eunomia/Utf8Output" = some m.cls := findClass_of_methodNamed Bd.named
  have hnm := (name_of_methodNamed Bd.named Bd.method).1
  have hlk : meth.locks = false := BodyLoose.notSynchronized (by assumption)
  have X0 : Stand p l e ({ frames := 0, cells := 0, slots := 0, locals := 0 } : Room) s m #[(.int p0), (.ref a1), (.int p2)] below meth c s₁ [] 0 0 := Stand.of_body Bd
  have e0 : s₁.heap = h0 := by rw [← hh, Bd.state]; rfl
  have N0 := Fr.nil n0
  show own_Done p e below s (Q1 Z p0 a1 p2 k1 f h0 n0) ({ frames := 0, cells := 0, slots := 0, locals := 0 } : Room).cells ({ frames := 0, cells := 0, slots := 0, locals := 0 } : Room).slots (s₁.setTop (entryFrame m #[(.int p0), (.ref a1), (.int p2)] 3))
  refine own_go (U' := s₁.setTop (mkF m 0 #[.val (.int p0), .val (.ref a1), .val (.int p2)] [])) (fun _ k => castTop (own_ef1 m p0 a1 p2) k) ?_
  refine own_go (U' := s₁.setTop (mkF m 1 #[.val (.int p0), .val (.ref a1), .val (.int p2)] [(.int p0)])) (fun _ k => XS.iloadN X0.here hx rfl (hb hby d1_0) rfl k) ?_
  refine own_go (U' := s₁.setTop (mkF m 4 #[.val (.int p0), .val (.ref a1), .val (.int p2)] [(.int (2048 : Int32)), (.int p0)])) (fun _ k => XS.sipush X0.here hx rfl (hb hby d1_1) k) ?_
  by_cases hc4_8 : p0 < (2048 : Int32)
  · refine own_go (U' := s₁.setTop (mkF m 7 #[.val (.int p0), .val (.ref a1), .val (.int p2)] [])) (fun _ k => XS.icmpNo X0.here hx rfl (hb hby d1_4) rfl (tlt hc4_8).2.1 k) ?_
    refine own_go (U' := s₁.setTop (mkF m 8 #[.val (.int p0), .val (.ref a1), .val (.int p2)] [(.ref a1)])) (fun _ k => XS.aloadN X0.here hx rfl (hb hby d1_7) rfl rfl k) ?_
    refine own_go (U' := s₁.setTop (mkF m 9 #[.val (.int p0), .val (.ref a1), .val (.int p2)] [(.int p2), (.ref a1)])) (fun _ k => XS.iloadN X0.here hx rfl (hb hby d1_8) rfl k) ?_
    refine own_go (U' := s₁.setTop (mkF m 12 #[.val (.int p0), .val (.ref a1), .val (.int p2)] [(.int (192 : Int32)), (.int p2), (.ref a1)])) (fun _ k => XS.sipush X0.here hx rfl (hb hby d1_9) k) ?_
    refine own_go (U' := s₁.setTop (mkF m 13 #[.val (.int p0), .val (.ref a1), .val (.int p2)] [(.int p0), (.int (192 : Int32)), (.int p2), (.ref a1)])) (fun _ k => XS.iloadN X0.here hx rfl (hb hby d1_12) rfl k) ?_
    refine own_go (U' := s₁.setTop (mkF m 15 #[.val (.int p0), .val (.ref a1), .val (.int p2)] [(.int (6 : Int32)), (.int p0), (.int (192 : Int32)), (.int p2), (.ref a1)])) (fun _ k => XS.bipush X0.here hx rfl (hb hby d1_13) k) ?_
    refine own_go (U' := s₁.setTop (mkF m 16 #[.val (.int p0), .val (.ref a1), .val (.int p2)] [(.int (p0 >>> ((6 : Int32) &&& 31))), (.int (192 : Int32)), (.int p2), (.ref a1)])) (fun _ k => XS.ishr X0.here hx rfl (hb hby d1_15) rfl k) ?_
    refine own_go (U' := s₁.setTop (mkF m 17 #[.val (.int p0), .val (.ref a1), .val (.int p2)] [(.int ((192 : Int32) ||| (p0 >>> ((6 : Int32) &&& 31)))), (.int p2), (.ref a1)])) (fun _ k => XS.ior X0.here hx rfl (hb hby d1_16) rfl k) ?_
    refine own_go (U' := s₁.setTop (mkF m 18 #[.val (.int p0), .val (.ref a1), .val (.int p2)] [(.int (((192 : Int32) ||| (p0 >>> ((6 : Int32) &&& 31))).toInt8.toInt32)), (.int p2), (.ref a1)])) (fun _ k => XS.i2b X0.here hx rfl (hb hby d1_17) rfl k) ?_
    have V9 := V_a
    obtain ⟨cl9, Ar9, q9, S9, Ng9, Hh9⟩ := V9
    have hj9 : ¬ p2 < 0 ∧ p2 < (8 : Int32) := (own_tt ht ht4).1
    obtain ⟨T10, h10, X10, e10, W10, st10⟩ := stB X0 hx hZ e0 Ar9 (j := p2) (inb_of S9 hj9) (g := (mkF m 18 #[.val (.int p0), .val (.ref a1), .val (.int p2)] [(.int (((192 : Int32) ||| (p0 >>> ((6 : Int32) &&& 31))).toInt8.toInt32)), (.int p2), (.ref a1)])) rfl rfl (hb hby d1_18)
    obtain ⟨f18, hf18⟩ : ∃ F_ : Int32 → Int32, F_ = (fun i : Int32 => if i = p2 then (((192 : Int32) ||| (p0 >>> ((6 : Int32) &&& 31))).toInt8.toInt32).toInt8.toInt32 else f i) := ⟨_, rfl⟩
    have w10 : own_Arf Z h10 a1 k1 .byte (8 : Int32) f18 := by rw [hf18]; exact own_Arf.set Ar9 q9 S9 Ng9 Hh9 hj9 W10
    have Z10 : n0 ≤ h10.size := Nat.le_trans Z0 (Keep.of_wr W10).1
    have K10 := Keep.wr (Keep.refl h0 [a1]) W10 (Or.inl (by simp))
    have N10 := Fr.snoc X10 N0 g_a1
    refine own_go (U' := T10.setTop (mkF m 19 #[.val (.int p0), .val (.ref a1), .val (.int p2)] [])) (fun _ k => st10 _ k) ?_
    refine own_go (U' := T10.setTop (mkF m 20 #[.val (.int p0), .val (.ref a1), .val (.int p2)] [(.ref a1)])) (fun _ k => XS.aloadN X10.here hx rfl (hb hby d1_19) rfl rfl k) ?_
    refine own_go (U' := T10.setTop (mkF m 21 #[.val (.int p0), .val (.ref a1), .val (.int p2)] [(.int p2), (.ref a1)])) (fun _ k => XS.iloadN X10.here hx rfl (hb hby d1_20) rfl k) ?_
    refine own_go (U' := T10.setTop (mkF m 22 #[.val (.int p0), .val (.ref a1), .val (.int p2)] [(.int (1 : Int32)), (.int p2), (.ref a1)])) (fun _ k => XS.iconst X10.here hx rfl (hb hby d1_21) k) ?_
    refine own_go (U' := T10.setTop (mkF m 23 #[.val (.int p0), .val (.ref a1), .val (.int p2)] [(.int (p2 + (1 : Int32))), (.ref a1)])) (fun _ k => XS.iadd X10.here hx rfl (hb hby d1_22) rfl k) ?_
    refine own_go (U' := T10.setTop (mkF m 26 #[.val (.int p0), .val (.ref a1), .val (.int p2)] [(.int (128 : Int32)), (.int (p2 + (1 : Int32))), (.ref a1)])) (fun _ k => XS.sipush X10.here hx rfl (hb hby d1_23) k) ?_
    refine own_go (U' := T10.setTop (mkF m 27 #[.val (.int p0), .val (.ref a1), .val (.int p2)] [(.int p0), (.int (128 : Int32)), (.int (p2 + (1 : Int32))), (.ref a1)])) (fun _ k => XS.iloadN X10.here hx rfl (hb hby d1_26) rfl k) ?_
    refine own_go (U' := T10.setTop (mkF m 29 #[.val (.int p0), .val (.ref a1), .val (.int p2)] [(.int (63 : Int32)), (.int p0), (.int (128 : Int32)), (.int (p2 + (1 : Int32))), (.ref a1)])) (fun _ k => XS.bipush X10.here hx rfl (hb hby d1_27) k) ?_
    refine own_go (U' := T10.setTop (mkF m 30 #[.val (.int p0), .val (.ref a1), .val (.int p2)] [(.int (p0 &&& (63 : Int32))), (.int (128 : Int32)), (.int (p2 + (1 : Int32))), (.ref a1)])) (fun _ k => XS.iand X10.here hx rfl (hb hby d1_29) rfl k) ?_
    refine own_go (U' := T10.setTop (mkF m 31 #[.val (.int p0), .val (.ref a1), .val (.int p2)] [(.int ((128 : Int32) ||| (p0 &&& (63 : Int32)))), (.int (p2 + (1 : Int32))), (.ref a1)])) (fun _ k => XS.ior X10.here hx rfl (hb hby d1_30) rfl k) ?_
    refine own_go (U' := T10.setTop (mkF m 32 #[.val (.int p0), .val (.ref a1), .val (.int p2)] [(.int (((128 : Int32) ||| (p0 &&& (63 : Int32))).toInt8.toInt32)), (.int (p2 + (1 : Int32))), (.ref a1)])) (fun _ k => XS.i2b X10.here hx rfl (hb hby d1_31) rfl k) ?_
    have V11 := w10
    obtain ⟨cl11, Ar11, q11, S11, Ng11, Hh11⟩ := V11
    have hj11 : ¬ (p2 + (1 : Int32)) < 0 ∧ (p2 + (1 : Int32)) < (8 : Int32) := (own_tt ht ht4).2.1
    obtain ⟨T12, h12, X12, e12, W12, st12⟩ := stB X10 hx hZ e10 Ar11 (j := (p2 + (1 : Int32))) (inb_of S11 hj11) (g := (mkF m 32 #[.val (.int p0), .val (.ref a1), .val (.int p2)] [(.int (((128 : Int32) ||| (p0 &&& (63 : Int32))).toInt8.toInt32)), (.int (p2 + (1 : Int32))), (.ref a1)])) rfl rfl (hb hby d1_32)
    obtain ⟨f32, hf32⟩ : ∃ F_ : Int32 → Int32, F_ = (fun i : Int32 => if i = (p2 + (1 : Int32)) then (((128 : Int32) ||| (p0 &&& (63 : Int32))).toInt8.toInt32).toInt8.toInt32 else f18 i) := ⟨_, rfl⟩
    have w12 : own_Arf Z h12 a1 k1 .byte (8 : Int32) f32 := by rw [hf32]; exact own_Arf.set Ar11 q11 S11 Ng11 Hh11 hj11 W12
    have Z12 : n0 ≤ h12.size := Nat.le_trans Z10 (Keep.of_wr W12).1
    have K12 := Keep.wr K10 W12 (Or.inl (by simp))
    have N12 := Fr.snoc X12 N10 g_a1
    refine own_go (U' := T12.setTop (mkF m 33 #[.val (.int p0), .val (.ref a1), .val (.int p2)] [])) (fun _ k => st12 _ k) ?_
    refine own_go (U' := T12.setTop (mkF m 34 #[.val (.int p0), .val (.ref a1), .val (.int p2)] [(.int p2)])) (fun _ k => XS.iloadN X12.here hx rfl (hb hby d1_33) rfl k) ?_
    refine own_go (U' := T12.setTop (mkF m 35 #[.val (.int p0), .val (.ref a1), .val (.int p2)] [(.int (2 : Int32)), (.int p2)])) (fun _ k => XS.iconst X12.here hx rfl (hb hby d1_34) k) ?_
    refine own_go (U' := T12.setTop (mkF m 36 #[.val (.int p0), .val (.ref a1), .val (.int p2)] [(.int (p2 + (2 : Int32)))])) (fun _ k => XS.iadd X12.here hx rfl (hb hby d1_35) rfl k) ?_
    refine own_ret X12 (v := (some (.int (p2 + (2 : Int32))))) hlk (fun h => by rw [Bd.returns] at h; cases h) (by decide) (by decide) (fun fs hr => own_retI X12 hx Bd.returns (hb hby d1_36) hr) ?_
    show (Q1 Z p0 a1 p2 k1 f h0 n0) _ T12.heap _
    rw [e12]
    refine ⟨?_, N12, K12, ?_⟩
    · show some (Value.int (p2 + (2 : Int32))) = some (Value.int (own_r p0 p2)); unfold own_r; simp only [if_pos hc4_8]
    · have e : own_enc p0 p2 f = f32 := by unfold own_enc; simp only [if_pos hc4_8]; (try subst hf32); (try subst hf18); rfl
      rw [e]; exact w12
  · refine own_go (U' := s₁.setTop (mkF m 37 #[.val (.int p0), .val (.ref a1), .val (.int p2)] [])) (fun _ k => XS.icmpYes X0.here hx rfl (pc0 := 4) (pc' := 37) rfl (hb hby d1_4) rfl (flt hc4_8).2.1 (by decide) (by decide) k) ?_
    refine own_go (U' := s₁.setTop (mkF m 38 #[.val (.int p0), .val (.ref a1), .val (.int p2)] [(.int p0)])) (fun _ k => XS.iloadN X0.here hx rfl (hb hby d1_37) rfl k) ?_
    refine own_go (U' := s₁.setTop (mkF m 40 #[.val (.int p0), .val (.ref a1), .val (.int p2)] [(.int (65536 : Int32)), (.int p0)])) (fun _ k => X0.ldcInt hx hown (mvT hZ (hw _ (List.mem_of_getElem? (i := 15) rfl))) (g := (mkF m 38 #[.val (.int p0), .val (.ref a1), .val (.int p2)] [(.int p0)])) rfl (hb hby d1_38) _ k) ?_
    by_cases hc40_13 : p0 < (65536 : Int32)
    · refine own_go (U' := s₁.setTop (mkF m 43 #[.val (.int p0), .val (.ref a1), .val (.int p2)] [])) (fun _ k => XS.icmpNo X0.here hx rfl (hb hby d1_40) rfl (tlt hc40_13).2.1 k) ?_
      refine own_go (U' := s₁.setTop (mkF m 44 #[.val (.int p0), .val (.ref a1), .val (.int p2)] [(.ref a1)])) (fun _ k => XS.aloadN X0.here hx rfl (hb hby d1_43) rfl rfl k) ?_
      refine own_go (U' := s₁.setTop (mkF m 45 #[.val (.int p0), .val (.ref a1), .val (.int p2)] [(.int p2), (.ref a1)])) (fun _ k => XS.iloadN X0.here hx rfl (hb hby d1_44) rfl k) ?_
      refine own_go (U' := s₁.setTop (mkF m 48 #[.val (.int p0), .val (.ref a1), .val (.int p2)] [(.int (224 : Int32)), (.int p2), (.ref a1)])) (fun _ k => XS.sipush X0.here hx rfl (hb hby d1_45) k) ?_
      refine own_go (U' := s₁.setTop (mkF m 49 #[.val (.int p0), .val (.ref a1), .val (.int p2)] [(.int p0), (.int (224 : Int32)), (.int p2), (.ref a1)])) (fun _ k => XS.iloadN X0.here hx rfl (hb hby d1_48) rfl k) ?_
      refine own_go (U' := s₁.setTop (mkF m 51 #[.val (.int p0), .val (.ref a1), .val (.int p2)] [(.int (12 : Int32)), (.int p0), (.int (224 : Int32)), (.int p2), (.ref a1)])) (fun _ k => XS.bipush X0.here hx rfl (hb hby d1_49) k) ?_
      refine own_go (U' := s₁.setTop (mkF m 52 #[.val (.int p0), .val (.ref a1), .val (.int p2)] [(.int (p0 >>> ((12 : Int32) &&& 31))), (.int (224 : Int32)), (.int p2), (.ref a1)])) (fun _ k => XS.ishr X0.here hx rfl (hb hby d1_51) rfl k) ?_
      refine own_go (U' := s₁.setTop (mkF m 53 #[.val (.int p0), .val (.ref a1), .val (.int p2)] [(.int ((224 : Int32) ||| (p0 >>> ((12 : Int32) &&& 31)))), (.int p2), (.ref a1)])) (fun _ k => XS.ior X0.here hx rfl (hb hby d1_52) rfl k) ?_
      refine own_go (U' := s₁.setTop (mkF m 54 #[.val (.int p0), .val (.ref a1), .val (.int p2)] [(.int (((224 : Int32) ||| (p0 >>> ((12 : Int32) &&& 31))).toInt8.toInt32)), (.int p2), (.ref a1)])) (fun _ k => XS.i2b X0.here hx rfl (hb hby d1_53) rfl k) ?_
      have V14 := V_a
      obtain ⟨cl14, Ar14, q14, S14, Ng14, Hh14⟩ := V14
      have hj14 : ¬ p2 < 0 ∧ p2 < (8 : Int32) := (own_tt ht ht4).1
      obtain ⟨T15, h15, X15, e15, W15, st15⟩ := stB X0 hx hZ e0 Ar14 (j := p2) (inb_of S14 hj14) (g := (mkF m 54 #[.val (.int p0), .val (.ref a1), .val (.int p2)] [(.int (((224 : Int32) ||| (p0 >>> ((12 : Int32) &&& 31))).toInt8.toInt32)), (.int p2), (.ref a1)])) rfl rfl (hb hby d1_54)
      obtain ⟨f54, hf54⟩ : ∃ F_ : Int32 → Int32, F_ = (fun i : Int32 => if i = p2 then (((224 : Int32) ||| (p0 >>> ((12 : Int32) &&& 31))).toInt8.toInt32).toInt8.toInt32 else f i) := ⟨_, rfl⟩
      have w15 : own_Arf Z h15 a1 k1 .byte (8 : Int32) f54 := by rw [hf54]; exact own_Arf.set Ar14 q14 S14 Ng14 Hh14 hj14 W15
      have Z15 : n0 ≤ h15.size := Nat.le_trans Z0 (Keep.of_wr W15).1
      have K15 := Keep.wr (Keep.refl h0 [a1]) W15 (Or.inl (by simp))
      have N15 := Fr.snoc X15 N0 g_a1
      refine own_go (U' := T15.setTop (mkF m 55 #[.val (.int p0), .val (.ref a1), .val (.int p2)] [])) (fun _ k => st15 _ k) ?_
      refine own_go (U' := T15.setTop (mkF m 56 #[.val (.int p0), .val (.ref a1), .val (.int p2)] [(.ref a1)])) (fun _ k => XS.aloadN X15.here hx rfl (hb hby d1_55) rfl rfl k) ?_
      refine own_go (U' := T15.setTop (mkF m 57 #[.val (.int p0), .val (.ref a1), .val (.int p2)] [(.int p2), (.ref a1)])) (fun _ k => XS.iloadN X15.here hx rfl (hb hby d1_56) rfl k) ?_
      refine own_go (U' := T15.setTop (mkF m 58 #[.val (.int p0), .val (.ref a1), .val (.int p2)] [(.int (1 : Int32)), (.int p2), (.ref a1)])) (fun _ k => XS.iconst X15.here hx rfl (hb hby d1_57) k) ?_
      refine own_go (U' := T15.setTop (mkF m 59 #[.val (.int p0), .val (.ref a1), .val (.int p2)] [(.int (p2 + (1 : Int32))), (.ref a1)])) (fun _ k => XS.iadd X15.here hx rfl (hb hby d1_58) rfl k) ?_
      refine own_go (U' := T15.setTop (mkF m 62 #[.val (.int p0), .val (.ref a1), .val (.int p2)] [(.int (128 : Int32)), (.int (p2 + (1 : Int32))), (.ref a1)])) (fun _ k => XS.sipush X15.here hx rfl (hb hby d1_59) k) ?_
      refine own_go (U' := T15.setTop (mkF m 63 #[.val (.int p0), .val (.ref a1), .val (.int p2)] [(.int p0), (.int (128 : Int32)), (.int (p2 + (1 : Int32))), (.ref a1)])) (fun _ k => XS.iloadN X15.here hx rfl (hb hby d1_62) rfl k) ?_
      refine own_go (U' := T15.setTop (mkF m 65 #[.val (.int p0), .val (.ref a1), .val (.int p2)] [(.int (6 : Int32)), (.int p0), (.int (128 : Int32)), (.int (p2 + (1 : Int32))), (.ref a1)])) (fun _ k => XS.bipush X15.here hx rfl (hb hby d1_63) k) ?_
      refine own_go (U' := T15.setTop (mkF m 66 #[.val (.int p0), .val (.ref a1), .val (.int p2)] [(.int (p0 >>> ((6 : Int32) &&& 31))), (.int (128 : Int32)), (.int (p2 + (1 : Int32))), (.ref a1)])) (fun _ k => XS.ishr X15.here hx rfl (hb hby d1_65) rfl k) ?_
      refine own_go (U' := T15.setTop (mkF m 68 #[.val (.int p0), .val (.ref a1), .val (.int p2)] [(.int (63 : Int32)), (.int (p0 >>> ((6 : Int32) &&& 31))), (.int (128 : Int32)), (.int (p2 + (1 : Int32))), (.ref a1)])) (fun _ k => XS.bipush X15.here hx rfl (hb hby d1_66) k) ?_
      refine own_go (U' := T15.setTop (mkF m 69 #[.val (.int p0), .val (.ref a1), .val (.int p2)] [(.int ((p0 >>> ((6 : Int32) &&& 31)) &&& (63 : Int32))), (.int (128 : Int32)), (.int (p2 + (1 : Int32))), (.ref a1)])) (fun _ k => XS.iand X15.here hx rfl (hb hby d1_68) rfl k) ?_
      refine own_go (U' := T15.setTop (mkF m 70 #[.val (.int p0), .val (.ref a1), .val (.int p2)] [(.int ((128 : Int32) ||| ((p0 >>> ((6 : Int32) &&& 31)) &&& (63 : Int32)))), (.int (p2 + (1 : Int32))), (.ref a1)])) (fun _ k => XS.ior X15.here hx rfl (hb hby d1_69) rfl k) ?_
      refine own_go (U' := T15.setTop (mkF m 71 #[.val (.int p0), .val (.ref a1), .val (.int p2)] [(.int (((128 : Int32) ||| ((p0 >>> ((6 : Int32) &&& 31)) &&& (63 : Int32))).toInt8.toInt32)), (.int (p2 + (1 : Int32))), (.ref a1)])) (fun _ k => XS.i2b X15.here hx rfl (hb hby d1_70) rfl k) ?_
      have V16 := w15
      obtain ⟨cl16, Ar16, q16, S16, Ng16, Hh16⟩ := V16
      have hj16 : ¬ (p2 + (1 : Int32)) < 0 ∧ (p2 + (1 : Int32)) < (8 : Int32) := (own_tt ht ht4).2.1
      obtain ⟨T17, h17, X17, e17, W17, st17⟩ := stB X15 hx hZ e15 Ar16 (j := (p2 + (1 : Int32))) (inb_of S16 hj16) (g := (mkF m 71 #[.val (.int p0), .val (.ref a1), .val (.int p2)] [(.int (((128 : Int32) ||| ((p0 >>> ((6 : Int32) &&& 31)) &&& (63 : Int32))).toInt8.toInt32)), (.int (p2 + (1 : Int32))), (.ref a1)])) rfl rfl (hb hby d1_71)
      obtain ⟨f71, hf71⟩ : ∃ F_ : Int32 → Int32, F_ = (fun i : Int32 => if i = (p2 + (1 : Int32)) then (((128 : Int32) ||| ((p0 >>> ((6 : Int32) &&& 31)) &&& (63 : Int32))).toInt8.toInt32).toInt8.toInt32 else f54 i) := ⟨_, rfl⟩
      have w17 : own_Arf Z h17 a1 k1 .byte (8 : Int32) f71 := by rw [hf71]; exact own_Arf.set Ar16 q16 S16 Ng16 Hh16 hj16 W17
      have Z17 : n0 ≤ h17.size := Nat.le_trans Z15 (Keep.of_wr W17).1
      have K17 := Keep.wr K15 W17 (Or.inl (by simp))
      have N17 := Fr.snoc X17 N15 g_a1
      refine own_go (U' := T17.setTop (mkF m 72 #[.val (.int p0), .val (.ref a1), .val (.int p2)] [])) (fun _ k => st17 _ k) ?_
      refine own_go (U' := T17.setTop (mkF m 73 #[.val (.int p0), .val (.ref a1), .val (.int p2)] [(.ref a1)])) (fun _ k => XS.aloadN X17.here hx rfl (hb hby d1_72) rfl rfl k) ?_
      refine own_go (U' := T17.setTop (mkF m 74 #[.val (.int p0), .val (.ref a1), .val (.int p2)] [(.int p2), (.ref a1)])) (fun _ k => XS.iloadN X17.here hx rfl (hb hby d1_73) rfl k) ?_
      refine own_go (U' := T17.setTop (mkF m 75 #[.val (.int p0), .val (.ref a1), .val (.int p2)] [(.int (2 : Int32)), (.int p2), (.ref a1)])) (fun _ k => XS.iconst X17.here hx rfl (hb hby d1_74) k) ?_
      refine own_go (U' := T17.setTop (mkF m 76 #[.val (.int p0), .val (.ref a1), .val (.int p2)] [(.int (p2 + (2 : Int32))), (.ref a1)])) (fun _ k => XS.iadd X17.here hx rfl (hb hby d1_75) rfl k) ?_
      refine own_go (U' := T17.setTop (mkF m 79 #[.val (.int p0), .val (.ref a1), .val (.int p2)] [(.int (128 : Int32)), (.int (p2 + (2 : Int32))), (.ref a1)])) (fun _ k => XS.sipush X17.here hx rfl (hb hby d1_76) k) ?_
      refine own_go (U' := T17.setTop (mkF m 80 #[.val (.int p0), .val (.ref a1), .val (.int p2)] [(.int p0), (.int (128 : Int32)), (.int (p2 + (2 : Int32))), (.ref a1)])) (fun _ k => XS.iloadN X17.here hx rfl (hb hby d1_79) rfl k) ?_
      refine own_go (U' := T17.setTop (mkF m 82 #[.val (.int p0), .val (.ref a1), .val (.int p2)] [(.int (63 : Int32)), (.int p0), (.int (128 : Int32)), (.int (p2 + (2 : Int32))), (.ref a1)])) (fun _ k => XS.bipush X17.here hx rfl (hb hby d1_80) k) ?_
      refine own_go (U' := T17.setTop (mkF m 83 #[.val (.int p0), .val (.ref a1), .val (.int p2)] [(.int (p0 &&& (63 : Int32))), (.int (128 : Int32)), (.int (p2 + (2 : Int32))), (.ref a1)])) (fun _ k => XS.iand X17.here hx rfl (hb hby d1_82) rfl k) ?_
      refine own_go (U' := T17.setTop (mkF m 84 #[.val (.int p0), .val (.ref a1), .val (.int p2)] [(.int ((128 : Int32) ||| (p0 &&& (63 : Int32)))), (.int (p2 + (2 : Int32))), (.ref a1)])) (fun _ k => XS.ior X17.here hx rfl (hb hby d1_83) rfl k) ?_
      refine own_go (U' := T17.setTop (mkF m 85 #[.val (.int p0), .val (.ref a1), .val (.int p2)] [(.int (((128 : Int32) ||| (p0 &&& (63 : Int32))).toInt8.toInt32)), (.int (p2 + (2 : Int32))), (.ref a1)])) (fun _ k => XS.i2b X17.here hx rfl (hb hby d1_84) rfl k) ?_
      have V18 := w17
      obtain ⟨cl18, Ar18, q18, S18, Ng18, Hh18⟩ := V18
      have hj18 : ¬ (p2 + (2 : Int32)) < 0 ∧ (p2 + (2 : Int32)) < (8 : Int32) := (own_tt ht ht4).2.2.1
      obtain ⟨T19, h19, X19, e19, W19, st19⟩ := stB X17 hx hZ e17 Ar18 (j := (p2 + (2 : Int32))) (inb_of S18 hj18) (g := (mkF m 85 #[.val (.int p0), .val (.ref a1), .val (.int p2)] [(.int (((128 : Int32) ||| (p0 &&& (63 : Int32))).toInt8.toInt32)), (.int (p2 + (2 : Int32))), (.ref a1)])) rfl rfl (hb hby d1_85)
      obtain ⟨f85, hf85⟩ : ∃ F_ : Int32 → Int32, F_ = (fun i : Int32 => if i = (p2 + (2 : Int32)) then (((128 : Int32) ||| (p0 &&& (63 : Int32))).toInt8.toInt32).toInt8.toInt32 else f71 i) := ⟨_, rfl⟩
      have w19 : own_Arf Z h19 a1 k1 .byte (8 : Int32) f85 := by rw [hf85]; exact own_Arf.set Ar18 q18 S18 Ng18 Hh18 hj18 W19
      have Z19 : n0 ≤ h19.size := Nat.le_trans Z17 (Keep.of_wr W19).1
      have K19 := Keep.wr K17 W19 (Or.inl (by simp))
      have N19 := Fr.snoc X19 N17 g_a1
      refine own_go (U' := T19.setTop (mkF m 86 #[.val (.int p0), .val (.ref a1), .val (.int p2)] [])) (fun _ k => st19 _ k) ?_
      refine own_go (U' := T19.setTop (mkF m 87 #[.val (.int p0), .val (.ref a1), .val (.int p2)] [(.int p2)])) (fun _ k => XS.iloadN X19.here hx rfl (hb hby d1_86) rfl k) ?_
      refine own_go (U' := T19.setTop (mkF m 88 #[.val (.int p0), .val (.ref a1), .val (.int p2)] [(.int (3 : Int32)), (.int p2)])) (fun _ k => XS.iconst X19.here hx rfl (hb hby d1_87) k) ?_
      refine own_go (U' := T19.setTop (mkF m 89 #[.val (.int p0), .val (.ref a1), .val (.int p2)] [(.int (p2 + (3 : Int32)))])) (fun _ k => XS.iadd X19.here hx rfl (hb hby d1_88) rfl k) ?_
      refine own_ret X19 (v := (some (.int (p2 + (3 : Int32))))) hlk (fun h => by rw [Bd.returns] at h; cases h) (by decide) (by decide) (fun fs hr => own_retI X19 hx Bd.returns (hb hby d1_89) hr) ?_
      show (Q1 Z p0 a1 p2 k1 f h0 n0) _ T19.heap _
      rw [e19]
      refine ⟨?_, N19, K19, ?_⟩
      · show some (Value.int (p2 + (3 : Int32))) = some (Value.int (own_r p0 p2)); unfold own_r; simp only [if_neg hc4_8, if_pos hc40_13]
      · have e : own_enc p0 p2 f = f85 := by unfold own_enc; simp only [if_neg hc4_8, if_pos hc40_13]; (try subst hf85); (try subst hf71); (try subst hf54); (try subst hf32); (try subst hf18); rfl
        rw [e]; exact w19
    · refine own_go (U' := s₁.setTop (mkF m 90 #[.val (.int p0), .val (.ref a1), .val (.int p2)] [])) (fun _ k => XS.icmpYes X0.here hx rfl (pc0 := 40) (pc' := 90) rfl (hb hby d1_40) rfl (flt hc40_13).2.1 (by decide) (by decide) k) ?_
      refine own_go (U' := s₁.setTop (mkF m 91 #[.val (.int p0), .val (.ref a1), .val (.int p2)] [(.ref a1)])) (fun _ k => XS.aloadN X0.here hx rfl (hb hby d1_90) rfl rfl k) ?_
      refine own_go (U' := s₁.setTop (mkF m 92 #[.val (.int p0), .val (.ref a1), .val (.int p2)] [(.int p2), (.ref a1)])) (fun _ k => XS.iloadN X0.here hx rfl (hb hby d1_91) rfl k) ?_
      refine own_go (U' := s₁.setTop (mkF m 95 #[.val (.int p0), .val (.ref a1), .val (.int p2)] [(.int (240 : Int32)), (.int p2), (.ref a1)])) (fun _ k => XS.sipush X0.here hx rfl (hb hby d1_92) k) ?_
      refine own_go (U' := s₁.setTop (mkF m 96 #[.val (.int p0), .val (.ref a1), .val (.int p2)] [(.int p0), (.int (240 : Int32)), (.int p2), (.ref a1)])) (fun _ k => XS.iloadN X0.here hx rfl (hb hby d1_95) rfl k) ?_
      refine own_go (U' := s₁.setTop (mkF m 98 #[.val (.int p0), .val (.ref a1), .val (.int p2)] [(.int (18 : Int32)), (.int p0), (.int (240 : Int32)), (.int p2), (.ref a1)])) (fun _ k => XS.bipush X0.here hx rfl (hb hby d1_96) k) ?_
      refine own_go (U' := s₁.setTop (mkF m 99 #[.val (.int p0), .val (.ref a1), .val (.int p2)] [(.int (p0 >>> ((18 : Int32) &&& 31))), (.int (240 : Int32)), (.int p2), (.ref a1)])) (fun _ k => XS.ishr X0.here hx rfl (hb hby d1_98) rfl k) ?_
      refine own_go (U' := s₁.setTop (mkF m 100 #[.val (.int p0), .val (.ref a1), .val (.int p2)] [(.int ((240 : Int32) ||| (p0 >>> ((18 : Int32) &&& 31)))), (.int p2), (.ref a1)])) (fun _ k => XS.ior X0.here hx rfl (hb hby d1_99) rfl k) ?_
      refine own_go (U' := s₁.setTop (mkF m 101 #[.val (.int p0), .val (.ref a1), .val (.int p2)] [(.int (((240 : Int32) ||| (p0 >>> ((18 : Int32) &&& 31))).toInt8.toInt32)), (.int p2), (.ref a1)])) (fun _ k => XS.i2b X0.here hx rfl (hb hby d1_100) rfl k) ?_
      have V20 := V_a
      obtain ⟨cl20, Ar20, q20, S20, Ng20, Hh20⟩ := V20
      have hj20 : ¬ p2 < 0 ∧ p2 < (8 : Int32) := (own_tt ht ht4).1
      obtain ⟨T21, h21, X21, e21, W21, st21⟩ := stB X0 hx hZ e0 Ar20 (j := p2) (inb_of S20 hj20) (g := (mkF m 101 #[.val (.int p0), .val (.ref a1), .val (.int p2)] [(.int (((240 : Int32) ||| (p0 >>> ((18 : Int32) &&& 31))).toInt8.toInt32)), (.int p2), (.ref a1)])) rfl rfl (hb hby d1_101)
      obtain ⟨f101, hf101⟩ : ∃ F_ : Int32 → Int32, F_ = (fun i : Int32 => if i = p2 then (((240 : Int32) ||| (p0 >>> ((18 : Int32) &&& 31))).toInt8.toInt32).toInt8.toInt32 else f i) := ⟨_, rfl⟩
      have w21 : own_Arf Z h21 a1 k1 .byte (8 : Int32) f101 := by rw [hf101]; exact own_Arf.set Ar20 q20 S20 Ng20 Hh20 hj20 W21
      have Z21 : n0 ≤ h21.size := Nat.le_trans Z0 (Keep.of_wr W21).1
      have K21 := Keep.wr (Keep.refl h0 [a1]) W21 (Or.inl (by simp))
      have N21 := Fr.snoc X21 N0 g_a1
      refine own_go (U' := T21.setTop (mkF m 102 #[.val (.int p0), .val (.ref a1), .val (.int p2)] [])) (fun _ k => st21 _ k) ?_
      refine own_go (U' := T21.setTop (mkF m 103 #[.val (.int p0), .val (.ref a1), .val (.int p2)] [(.ref a1)])) (fun _ k => XS.aloadN X21.here hx rfl (hb hby d1_102) rfl rfl k) ?_
      refine own_go (U' := T21.setTop (mkF m 104 #[.val (.int p0), .val (.ref a1), .val (.int p2)] [(.int p2), (.ref a1)])) (fun _ k => XS.iloadN X21.here hx rfl (hb hby d1_103) rfl k) ?_
      refine own_go (U' := T21.setTop (mkF m 105 #[.val (.int p0), .val (.ref a1), .val (.int p2)] [(.int (1 : Int32)), (.int p2), (.ref a1)])) (fun _ k => XS.iconst X21.here hx rfl (hb hby d1_104) k) ?_
      refine own_go (U' := T21.setTop (mkF m 106 #[.val (.int p0), .val (.ref a1), .val (.int p2)] [(.int (p2 + (1 : Int32))), (.ref a1)])) (fun _ k => XS.iadd X21.here hx rfl (hb hby d1_105) rfl k) ?_
      refine own_go (U' := T21.setTop (mkF m 109 #[.val (.int p0), .val (.ref a1), .val (.int p2)] [(.int (128 : Int32)), (.int (p2 + (1 : Int32))), (.ref a1)])) (fun _ k => XS.sipush X21.here hx rfl (hb hby d1_106) k) ?_
      refine own_go (U' := T21.setTop (mkF m 110 #[.val (.int p0), .val (.ref a1), .val (.int p2)] [(.int p0), (.int (128 : Int32)), (.int (p2 + (1 : Int32))), (.ref a1)])) (fun _ k => XS.iloadN X21.here hx rfl (hb hby d1_109) rfl k) ?_
      refine own_go (U' := T21.setTop (mkF m 112 #[.val (.int p0), .val (.ref a1), .val (.int p2)] [(.int (12 : Int32)), (.int p0), (.int (128 : Int32)), (.int (p2 + (1 : Int32))), (.ref a1)])) (fun _ k => XS.bipush X21.here hx rfl (hb hby d1_110) k) ?_
      refine own_go (U' := T21.setTop (mkF m 113 #[.val (.int p0), .val (.ref a1), .val (.int p2)] [(.int (p0 >>> ((12 : Int32) &&& 31))), (.int (128 : Int32)), (.int (p2 + (1 : Int32))), (.ref a1)])) (fun _ k => XS.ishr X21.here hx rfl (hb hby d1_112) rfl k) ?_
      refine own_go (U' := T21.setTop (mkF m 115 #[.val (.int p0), .val (.ref a1), .val (.int p2)] [(.int (63 : Int32)), (.int (p0 >>> ((12 : Int32) &&& 31))), (.int (128 : Int32)), (.int (p2 + (1 : Int32))), (.ref a1)])) (fun _ k => XS.bipush X21.here hx rfl (hb hby d1_113) k) ?_
      refine own_go (U' := T21.setTop (mkF m 116 #[.val (.int p0), .val (.ref a1), .val (.int p2)] [(.int ((p0 >>> ((12 : Int32) &&& 31)) &&& (63 : Int32))), (.int (128 : Int32)), (.int (p2 + (1 : Int32))), (.ref a1)])) (fun _ k => XS.iand X21.here hx rfl (hb hby d1_115) rfl k) ?_
      refine own_go (U' := T21.setTop (mkF m 117 #[.val (.int p0), .val (.ref a1), .val (.int p2)] [(.int ((128 : Int32) ||| ((p0 >>> ((12 : Int32) &&& 31)) &&& (63 : Int32)))), (.int (p2 + (1 : Int32))), (.ref a1)])) (fun _ k => XS.ior X21.here hx rfl (hb hby d1_116) rfl k) ?_
      refine own_go (U' := T21.setTop (mkF m 118 #[.val (.int p0), .val (.ref a1), .val (.int p2)] [(.int (((128 : Int32) ||| ((p0 >>> ((12 : Int32) &&& 31)) &&& (63 : Int32))).toInt8.toInt32)), (.int (p2 + (1 : Int32))), (.ref a1)])) (fun _ k => XS.i2b X21.here hx rfl (hb hby d1_117) rfl k) ?_
      have V22 := w21
      obtain ⟨cl22, Ar22, q22, S22, Ng22, Hh22⟩ := V22
      have hj22 : ¬ (p2 + (1 : Int32)) < 0 ∧ (p2 + (1 : Int32)) < (8 : Int32) := (own_tt ht ht4).2.1
      obtain ⟨T23, h23, X23, e23, W23, st23⟩ := stB X21 hx hZ e21 Ar22 (j := (p2 + (1 : Int32))) (inb_of S22 hj22) (g := (mkF m 118 #[.val (.int p0), .val (.ref a1), .val (.int p2)] [(.int (((128 : Int32) ||| ((p0 >>> ((12 : Int32) &&& 31)) &&& (63 : Int32))).toInt8.toInt32)), (.int (p2 + (1 : Int32))), (.ref a1)])) rfl rfl (hb hby d1_118)
      obtain ⟨f118, hf118⟩ : ∃ F_ : Int32 → Int32, F_ = (fun i : Int32 => if i = (p2 + (1 : Int32)) then (((128 : Int32) ||| ((p0 >>> ((12 : Int32) &&& 31)) &&& (63 : Int32))).toInt8.toInt32).toInt8.toInt32 else f101 i) := ⟨_, rfl⟩
      have w23 : own_Arf Z h23 a1 k1 .byte (8 : Int32) f118 := by rw [hf118]; exact own_Arf.set Ar22 q22 S22 Ng22 Hh22 hj22 W23
      have Z23 : n0 ≤ h23.size := Nat.le_trans Z21 (Keep.of_wr W23).1
      have K23 := Keep.wr K21 W23 (Or.inl (by simp))
      have N23 := Fr.snoc X23 N21 g_a1
      refine own_go (U' := T23.setTop (mkF m 119 #[.val (.int p0), .val (.ref a1), .val (.int p2)] [])) (fun _ k => st23 _ k) ?_
      refine own_go (U' := T23.setTop (mkF m 120 #[.val (.int p0), .val (.ref a1), .val (.int p2)] [(.ref a1)])) (fun _ k => XS.aloadN X23.here hx rfl (hb hby d1_119) rfl rfl k) ?_
      refine own_go (U' := T23.setTop (mkF m 121 #[.val (.int p0), .val (.ref a1), .val (.int p2)] [(.int p2), (.ref a1)])) (fun _ k => XS.iloadN X23.here hx rfl (hb hby d1_120) rfl k) ?_
      refine own_go (U' := T23.setTop (mkF m 122 #[.val (.int p0), .val (.ref a1), .val (.int p2)] [(.int (2 : Int32)), (.int p2), (.ref a1)])) (fun _ k => XS.iconst X23.here hx rfl (hb hby d1_121) k) ?_
      refine own_go (U' := T23.setTop (mkF m 123 #[.val (.int p0), .val (.ref a1), .val (.int p2)] [(.int (p2 + (2 : Int32))), (.ref a1)])) (fun _ k => XS.iadd X23.here hx rfl (hb hby d1_122) rfl k) ?_
      refine own_go (U' := T23.setTop (mkF m 126 #[.val (.int p0), .val (.ref a1), .val (.int p2)] [(.int (128 : Int32)), (.int (p2 + (2 : Int32))), (.ref a1)])) (fun _ k => XS.sipush X23.here hx rfl (hb hby d1_123) k) ?_
      refine own_go (U' := T23.setTop (mkF m 127 #[.val (.int p0), .val (.ref a1), .val (.int p2)] [(.int p0), (.int (128 : Int32)), (.int (p2 + (2 : Int32))), (.ref a1)])) (fun _ k => XS.iloadN X23.here hx rfl (hb hby d1_126) rfl k) ?_
      refine own_go (U' := T23.setTop (mkF m 129 #[.val (.int p0), .val (.ref a1), .val (.int p2)] [(.int (6 : Int32)), (.int p0), (.int (128 : Int32)), (.int (p2 + (2 : Int32))), (.ref a1)])) (fun _ k => XS.bipush X23.here hx rfl (hb hby d1_127) k) ?_
      refine own_go (U' := T23.setTop (mkF m 130 #[.val (.int p0), .val (.ref a1), .val (.int p2)] [(.int (p0 >>> ((6 : Int32) &&& 31))), (.int (128 : Int32)), (.int (p2 + (2 : Int32))), (.ref a1)])) (fun _ k => XS.ishr X23.here hx rfl (hb hby d1_129) rfl k) ?_
      refine own_go (U' := T23.setTop (mkF m 132 #[.val (.int p0), .val (.ref a1), .val (.int p2)] [(.int (63 : Int32)), (.int (p0 >>> ((6 : Int32) &&& 31))), (.int (128 : Int32)), (.int (p2 + (2 : Int32))), (.ref a1)])) (fun _ k => XS.bipush X23.here hx rfl (hb hby d1_130) k) ?_
      refine own_go (U' := T23.setTop (mkF m 133 #[.val (.int p0), .val (.ref a1), .val (.int p2)] [(.int ((p0 >>> ((6 : Int32) &&& 31)) &&& (63 : Int32))), (.int (128 : Int32)), (.int (p2 + (2 : Int32))), (.ref a1)])) (fun _ k => XS.iand X23.here hx rfl (hb hby d1_132) rfl k) ?_
      refine own_go (U' := T23.setTop (mkF m 134 #[.val (.int p0), .val (.ref a1), .val (.int p2)] [(.int ((128 : Int32) ||| ((p0 >>> ((6 : Int32) &&& 31)) &&& (63 : Int32)))), (.int (p2 + (2 : Int32))), (.ref a1)])) (fun _ k => XS.ior X23.here hx rfl (hb hby d1_133) rfl k) ?_
      refine own_go (U' := T23.setTop (mkF m 135 #[.val (.int p0), .val (.ref a1), .val (.int p2)] [(.int (((128 : Int32) ||| ((p0 >>> ((6 : Int32) &&& 31)) &&& (63 : Int32))).toInt8.toInt32)), (.int (p2 + (2 : Int32))), (.ref a1)])) (fun _ k => XS.i2b X23.here hx rfl (hb hby d1_134) rfl k) ?_
      have V24 := w23
      obtain ⟨cl24, Ar24, q24, S24, Ng24, Hh24⟩ := V24
      have hj24 : ¬ (p2 + (2 : Int32)) < 0 ∧ (p2 + (2 : Int32)) < (8 : Int32) := (own_tt ht ht4).2.2.1
      obtain ⟨T25, h25, X25, e25, W25, st25⟩ := stB X23 hx hZ e23 Ar24 (j := (p2 + (2 : Int32))) (inb_of S24 hj24) (g := (mkF m 135 #[.val (.int p0), .val (.ref a1), .val (.int p2)] [(.int (((128 : Int32) ||| ((p0 >>> ((6 : Int32) &&& 31)) &&& (63 : Int32))).toInt8.toInt32)), (.int (p2 + (2 : Int32))), (.ref a1)])) rfl rfl (hb hby d1_135)
      obtain ⟨f135, hf135⟩ : ∃ F_ : Int32 → Int32, F_ = (fun i : Int32 => if i = (p2 + (2 : Int32)) then (((128 : Int32) ||| ((p0 >>> ((6 : Int32) &&& 31)) &&& (63 : Int32))).toInt8.toInt32).toInt8.toInt32 else f118 i) := ⟨_, rfl⟩
      have w25 : own_Arf Z h25 a1 k1 .byte (8 : Int32) f135 := by rw [hf135]; exact own_Arf.set Ar24 q24 S24 Ng24 Hh24 hj24 W25
      have Z25 : n0 ≤ h25.size := Nat.le_trans Z23 (Keep.of_wr W25).1
      have K25 := Keep.wr K23 W25 (Or.inl (by simp))
      have N25 := Fr.snoc X25 N23 g_a1
      refine own_go (U' := T25.setTop (mkF m 136 #[.val (.int p0), .val (.ref a1), .val (.int p2)] [])) (fun _ k => st25 _ k) ?_
      refine own_go (U' := T25.setTop (mkF m 137 #[.val (.int p0), .val (.ref a1), .val (.int p2)] [(.ref a1)])) (fun _ k => XS.aloadN X25.here hx rfl (hb hby d1_136) rfl rfl k) ?_
      refine own_go (U' := T25.setTop (mkF m 138 #[.val (.int p0), .val (.ref a1), .val (.int p2)] [(.int p2), (.ref a1)])) (fun _ k => XS.iloadN X25.here hx rfl (hb hby d1_137) rfl k) ?_
      refine own_go (U' := T25.setTop (mkF m 139 #[.val (.int p0), .val (.ref a1), .val (.int p2)] [(.int (3 : Int32)), (.int p2), (.ref a1)])) (fun _ k => XS.iconst X25.here hx rfl (hb hby d1_138) k) ?_
      refine own_go (U' := T25.setTop (mkF m 140 #[.val (.int p0), .val (.ref a1), .val (.int p2)] [(.int (p2 + (3 : Int32))), (.ref a1)])) (fun _ k => XS.iadd X25.here hx rfl (hb hby d1_139) rfl k) ?_
      refine own_go (U' := T25.setTop (mkF m 143 #[.val (.int p0), .val (.ref a1), .val (.int p2)] [(.int (128 : Int32)), (.int (p2 + (3 : Int32))), (.ref a1)])) (fun _ k => XS.sipush X25.here hx rfl (hb hby d1_140) k) ?_
      refine own_go (U' := T25.setTop (mkF m 144 #[.val (.int p0), .val (.ref a1), .val (.int p2)] [(.int p0), (.int (128 : Int32)), (.int (p2 + (3 : Int32))), (.ref a1)])) (fun _ k => XS.iloadN X25.here hx rfl (hb hby d1_143) rfl k) ?_
      refine own_go (U' := T25.setTop (mkF m 146 #[.val (.int p0), .val (.ref a1), .val (.int p2)] [(.int (63 : Int32)), (.int p0), (.int (128 : Int32)), (.int (p2 + (3 : Int32))), (.ref a1)])) (fun _ k => XS.bipush X25.here hx rfl (hb hby d1_144) k) ?_
      refine own_go (U' := T25.setTop (mkF m 147 #[.val (.int p0), .val (.ref a1), .val (.int p2)] [(.int (p0 &&& (63 : Int32))), (.int (128 : Int32)), (.int (p2 + (3 : Int32))), (.ref a1)])) (fun _ k => XS.iand X25.here hx rfl (hb hby d1_146) rfl k) ?_
      refine own_go (U' := T25.setTop (mkF m 148 #[.val (.int p0), .val (.ref a1), .val (.int p2)] [(.int ((128 : Int32) ||| (p0 &&& (63 : Int32)))), (.int (p2 + (3 : Int32))), (.ref a1)])) (fun _ k => XS.ior X25.here hx rfl (hb hby d1_147) rfl k) ?_
      refine own_go (U' := T25.setTop (mkF m 149 #[.val (.int p0), .val (.ref a1), .val (.int p2)] [(.int (((128 : Int32) ||| (p0 &&& (63 : Int32))).toInt8.toInt32)), (.int (p2 + (3 : Int32))), (.ref a1)])) (fun _ k => XS.i2b X25.here hx rfl (hb hby d1_148) rfl k) ?_
      have V26 := w25
      obtain ⟨cl26, Ar26, q26, S26, Ng26, Hh26⟩ := V26
      have hj26 : ¬ (p2 + (3 : Int32)) < 0 ∧ (p2 + (3 : Int32)) < (8 : Int32) := (own_tt ht ht4).2.2.2
      obtain ⟨T27, h27, X27, e27, W27, st27⟩ := stB X25 hx hZ e25 Ar26 (j := (p2 + (3 : Int32))) (inb_of S26 hj26) (g := (mkF m 149 #[.val (.int p0), .val (.ref a1), .val (.int p2)] [(.int (((128 : Int32) ||| (p0 &&& (63 : Int32))).toInt8.toInt32)), (.int (p2 + (3 : Int32))), (.ref a1)])) rfl rfl (hb hby d1_149)
      obtain ⟨f149, hf149⟩ : ∃ F_ : Int32 → Int32, F_ = (fun i : Int32 => if i = (p2 + (3 : Int32)) then (((128 : Int32) ||| (p0 &&& (63 : Int32))).toInt8.toInt32).toInt8.toInt32 else f135 i) := ⟨_, rfl⟩
      have w27 : own_Arf Z h27 a1 k1 .byte (8 : Int32) f149 := by rw [hf149]; exact own_Arf.set Ar26 q26 S26 Ng26 Hh26 hj26 W27
      have Z27 : n0 ≤ h27.size := Nat.le_trans Z25 (Keep.of_wr W27).1
      have K27 := Keep.wr K25 W27 (Or.inl (by simp))
      have N27 := Fr.snoc X27 N25 g_a1
      refine own_go (U' := T27.setTop (mkF m 150 #[.val (.int p0), .val (.ref a1), .val (.int p2)] [])) (fun _ k => st27 _ k) ?_
      refine own_go (U' := T27.setTop (mkF m 151 #[.val (.int p0), .val (.ref a1), .val (.int p2)] [(.int p2)])) (fun _ k => XS.iloadN X27.here hx rfl (hb hby d1_150) rfl k) ?_
      refine own_go (U' := T27.setTop (mkF m 152 #[.val (.int p0), .val (.ref a1), .val (.int p2)] [(.int (4 : Int32)), (.int p2)])) (fun _ k => XS.iconst X27.here hx rfl (hb hby d1_151) k) ?_
      refine own_go (U' := T27.setTop (mkF m 153 #[.val (.int p0), .val (.ref a1), .val (.int p2)] [(.int (p2 + (4 : Int32)))])) (fun _ k => XS.iadd X27.here hx rfl (hb hby d1_152) rfl k) ?_
      refine own_ret X27 (v := (some (.int (p2 + (4 : Int32))))) hlk (fun h => by rw [Bd.returns] at h; cases h) (by decide) (by decide) (fun fs hr => own_retI X27 hx Bd.returns (hb hby d1_153) hr) ?_
      show (Q1 Z p0 a1 p2 k1 f h0 n0) _ T27.heap _
      rw [e27]
      refine ⟨?_, N27, K27, ?_⟩
      · show some (Value.int (p2 + (4 : Int32))) = some (Value.int (own_r p0 p2)); unfold own_r; simp only [if_neg hc4_8, if_neg hc40_13]
      · have e : own_enc p0 p2 f = f149 := by unfold own_enc; simp only [if_neg hc4_8, if_neg hc40_13]; (try subst hf149); (try subst hf135); (try subst hf118); (try subst hf101); (try subst hf85); (try subst hf71); (try subst hf54); (try subst hf32); (try subst hf18); rfl
        rw [e]; exact w27

theorem own_byte {x : Int32} (h0 : 0 ≤ x.toInt) (h1 : x.toInt < 256) : (own_b x &&& 255).toInt = x.toInt := by
  have a := c_i2b x
  have b := c_i2b x.toInt8.toInt32
  have c : (own_b x &&& 255).toInt = (own_b x).toInt % 256 := c_mask _ 255 8 (by decide) (by decide)
  have d : own_b x = x.toInt8.toInt32.toInt8.toInt32 := rfl
  rw [c, d]
  omega
theorem own_orc (a b : Int32) (k : Nat) (hk : k ≤ 31) (P : Int) (hP : P = (2 ^ k : Nat)) (ha : a.toInt % P = 0) (hb0 : 0 ≤ b.toInt) (hb1 : b.toInt < P) (hs0 : 0 ≤ a.toInt) (hs : a.toInt + b.toInt < 2147483648) : (a ||| b).toInt = a.toInt + b.toInt := by
  have q := c_or a b k hk P hP ha hb0 hb1
  have r := rng32 (a ||| b)
  omega
theorem own_fin256 {x : Int32} (h0 : 0 ≤ x.toInt) (h1 : x.toInt < 256) : ∃ i : Fin 256, x = Int32.ofInt i.1 ∧ x.toInt = i.1 := by
  refine ⟨⟨x.toInt.toNat, by omega⟩, ?_, ?_⟩
  · show x = Int32.ofInt (x.toInt.toNat : Int)
    rw [Int.toNat_of_nonneg h0, Int32.ofInt_toInt]
  · show x.toInt = (x.toInt.toNat : Int)
    omega
theorem own_m224 {x : Int32} (h0 : 192 ≤ x.toInt) (h1 : x.toInt < 224) : (x &&& 224) = 192 := by
  have key : ∀ i : Fin 256, 192 ≤ i.1 → i.1 < 224 → (Int32.ofInt i.1 &&& 224) = 192 := by decide +kernel
  obtain ⟨i, e, e'⟩ := own_fin256 (x := x) (by omega) (by omega)
  rw [e]; exact key i (by omega) (by omega)
theorem own_m240 {x : Int32} (h0 : 224 ≤ x.toInt) (h1 : x.toInt < 240) : (x &&& 240) = 224 := by
  have key : ∀ i : Fin 256, 224 ≤ i.1 → i.1 < 240 → (Int32.ofInt i.1 &&& 240) = 224 := by decide +kernel
  obtain ⟨i, e, e'⟩ := own_fin256 (x := x) (by omega) (by omega)
  rw [e]; exact key i (by omega) (by omega)
theorem own_m248 {x : Int32} (h0 : 240 ≤ x.toInt) (h1 : x.toInt < 248) : (x &&& 248) = 240 := by
  have key : ∀ i : Fin 256, 240 ≤ i.1 → i.1 < 248 → (Int32.ofInt i.1 &&& 248) = 240 := by decide +kernel
  obtain ⟨i, e, e'⟩ := own_fin256 (x := x) (by omega) (by omega)
  rw [e]; exact key i (by omega) (by omega)
theorem own_cont {x : Int32} (h0 : 128 ≤ x.toInt) (h1 : x.toInt < 192) : ¬ f_3 x = 0 := by
  have key : ∀ i : Fin 256, 128 ≤ i.1 → i.1 < 192 → (Int32.ofInt i.1 &&& 192) = 128 := by decide +kernel
  obtain ⟨i, e, e'⟩ := own_fin256 (x := x) (by omega) (by omega)
  unfold f_3
  rw [if_pos (by rw [e]; exact key i (by omega) (by omega))]
  decide
theorem own_cp {p y : Int32} (h : ((128 : Int32) + ((p &&& (2147483647 : Int32)) % (1113984 : Int32))) = y) : 128 ≤ y.toInt ∧ y.toInt < 1114112 := by
  have e : (p &&& (2147483647 : Int32)).toInt = p.toInt % 2147483648 := c_mask p _ 31 (by decide) (by decide)
  have q := (c_irem (p &&& (2147483647 : Int32)) (1113984 : Int32) 1113984 (by decide)).1 (by omega)
  have a := c_iadd (128 : Int32) ((p &&& (2147483647 : Int32)) % (1113984 : Int32))
  have r := rng32 ((128 : Int32) + ((p &&& (2147483647 : Int32)) % (1113984 : Int32)))
  have k : (128 : Int32).toInt = 128 := by decide
  rw [h] at a r
  omega
theorem own_t {p y : Int32} (h : (p &&& (3 : Int32)) = y) : ¬ y < (0 : Int32) ∧ y < (4 : Int32) := by
  have e : (p &&& (3 : Int32)).toInt = p.toInt % 4 := c_mask p _ 2 (by decide) (by decide)
  have k0 : (0 : Int32).toInt = 0 := by decide
  have k4 : (4 : Int32).toInt = 4 := by decide
  rw [h] at e
  rw [Int32.lt_iff_toInt_lt, Int32.lt_iff_toInt_lt, k0, k4]
  omega
theorem own_fill8 {p y : Int32} (h : (p.toInt8.toInt32) = y) : y.toInt8.toInt32 = y := by
  have a := c_i2b p
  have b := c_i2b y
  rw [h] at a
  exact Int32.toInt_inj.mp (by omega)
theorem own_in8 {i : Int32} (h : ¬ i < 0) (h2 : i < 8) : i = 0 ∨ i = 1 ∨ i = 2 ∨ i = 3 ∨ i = 4 ∨ i = 5 ∨ i = 6 ∨ i = 7 := by
  have k0 : (0 : Int32).toInt = 0 := by decide
  have k1 : (1 : Int32).toInt = 1 := by decide
  have k2 : (2 : Int32).toInt = 2 := by decide
  have k3 : (3 : Int32).toInt = 3 := by decide
  have k4 : (4 : Int32).toInt = 4 := by decide
  have k5 : (5 : Int32).toInt = 5 := by decide
  have k6 : (6 : Int32).toInt = 6 := by decide
  have k7 : (7 : Int32).toInt = 7 := by decide
  have k8 : (8 : Int32).toInt = 8 := by decide
  rw [Int32.lt_iff_toInt_lt, k0] at h
  rw [Int32.lt_iff_toInt_lt, k8] at h2
  simp only [← Int32.toInt_inj, k0, k1, k2, k3, k4, k5, k6, k7]
  omega
theorem own_filled {w : Int32} {f0 f1 f2 f3 f4 f5 f6 f7 : Int32 → Int32} (h0 : f0 = (fun i : Int32 => if i = (0 : Int32) then w else (fun _ => (0 : Int32)) i)) (h1 : f1 = (fun i : Int32 => if i = (1 : Int32) then w else f0 i)) (h2 : f2 = (fun i : Int32 => if i = (2 : Int32) then w else f1 i)) (h3 : f3 = (fun i : Int32 => if i = (3 : Int32) then w else f2 i)) (h4 : f4 = (fun i : Int32 => if i = (4 : Int32) then w else f3 i)) (h5 : f5 = (fun i : Int32 => if i = (5 : Int32) then w else f4 i)) (h6 : f6 = (fun i : Int32 => if i = (6 : Int32) then w else f5 i)) (h7 : f7 = (fun i : Int32 => if i = (7 : Int32) then w else f6 i)) :
    ∀ i : Int32, ¬ i < 0 → i < 8 → f7 i = w := by
  intro i a b
  rcases own_in8 a b with rfl | rfl | rfl | rfl | rfl | rfl | rfl | rfl <;> simp [h0, h1, h2, h3, h4, h5, h6, h7]
theorem own_setne {f : Int32 → Int32} {j v i : Int32} (h : i ≠ j) : own_set f j v i = f i := by unfold own_set; rw [if_neg h]
theorem own_seteq {f : Int32 → Int32} {j v : Int32} : own_set f j v j = v := by unfold own_set; rw [if_pos rfl]
theorem own_ne {a b : Int32} (h : a.toInt ≠ b.toInt) : a ≠ b := fun q => h (by rw [q])
theorem own_ti {t : Int32} (h : ¬ t < 0) (h2 : t < 4) : 0 ≤ t.toInt ∧ t.toInt < 4 ∧ (t + 1).toInt = t.toInt + 1 ∧ (t + 2).toInt = t.toInt + 2 ∧ (t + 3).toInt = t.toInt + 3 ∧ (t + 4).toInt = t.toInt + 4 := by
  have k0 : (0 : Int32).toInt = 0 := by decide
  have k1 : (1 : Int32).toInt = 1 := by decide
  have k2 : (2 : Int32).toInt = 2 := by decide
  have k3 : (3 : Int32).toInt = 3 := by decide
  have k4 : (4 : Int32).toInt = 4 := by decide
  have a1 := c_iadd t 1
  have a2 := c_iadd t 2
  have a3 := c_iadd t 3
  have a4 := c_iadd t 4
  have r1 := rng32 (t + 1)
  have r2 := rng32 (t + 2)
  have r3 := rng32 (t + 3)
  have r4 := rng32 (t + 4)
  rw [Int32.lt_iff_toInt_lt, k0] at h
  rw [Int32.lt_iff_toInt_lt, k4] at h2
  omega
theorem own_end {c t z r : Int32} (hz : z = if c < (2048 : Int32) then (2 : Int32) else (if c < (65536 : Int32) then (3 : Int32) else (4 : Int32))) (hr : own_r c t = r) : r = t + z := by
  rw [← hr, hz]
  unfold own_r
  by_cases h : c < (2048 : Int32)
  · rw [if_pos h, if_pos h]
  · rw [if_neg h, if_neg h]
    by_cases h' : c < (65536 : Int32)
    · rw [if_pos h', if_pos h']
    · rw [if_neg h', if_neg h']
theorem own_out {c t z i : Int32} {f : Int32 → Int32} (hz : z = if c < (2048 : Int32) then (2 : Int32) else (if c < (65536 : Int32) then (3 : Int32) else (4 : Int32))) (ht : ¬ t < 0) (ht4 : t < 4) (h : i.toInt < t.toInt ∨ (t + z).toInt ≤ i.toInt) : own_enc c t f i = f i := by
  obtain ⟨a0, a4, a1, a2, a3, a5⟩ := own_ti ht ht4
  unfold own_enc
  by_cases h1 : c < (2048 : Int32)
  · rw [if_pos h1] at hz ⊢
    subst hz
    rw [own_setne (own_ne (by omega)), own_setne (own_ne (by omega))]
  · rw [if_neg h1] at hz ⊢
    by_cases h2 : c < (65536 : Int32)
    · rw [if_pos h2] at hz ⊢
      subst hz
      rw [own_setne (own_ne (by omega)), own_setne (own_ne (by omega)), own_setne (own_ne (by omega))]
    · rw [if_neg h2] at hz ⊢
      subst hz
      rw [own_setne (own_ne (by omega)), own_setne (own_ne (by omega)), own_setne (own_ne (by omega)), own_setne (own_ne (by omega))]
theorem own_unt {c t z w i : Int32} {a : Addr} {k : ClassId} {f : Int32 → Int32} (hz : z = if c < (2048 : Int32) then (2 : Int32) else (if c < (65536 : Int32) then (3 : Int32) else (4 : Int32))) (ht : ¬ t < 0) (ht4 : t < 4) (hf : ∀ i : Int32, ¬ i < 0 → i < 8 → f i = w) (h0 : ¬ i < 0) (h8 : i < 8) : ¬ f_2 a i t z w k (own_enc c t f) = 0 := by
  unfold f_2
  by_cases h1 : i < t
  · rw [if_pos h1, own_out hz ht ht4 (Or.inl (Int32.lt_iff_toInt_lt.mp h1)), if_pos (hf i h0 h8)]; decide
  · rw [if_neg h1]
    by_cases h2 : i < t + z
    · rw [if_pos h2]; decide
    · rw [if_neg h2, own_out hz ht ht4 (Or.inr (by rw [Int32.lt_iff_toInt_lt] at h2; omega)), if_pos (hf i h0 h8)]; decide
theorem own_sh (c : Int32) : (c >>> ((6 : Int32) &&& 31)).toInt = c.toInt / 64 ∧ (c >>> ((12 : Int32) &&& 31)).toInt = c.toInt / 4096 ∧ (c >>> ((18 : Int32) &&& 31)).toInt = c.toInt / 262144 := ⟨c_ishr c 6 6 (by decide), c_ishr c 12 12 (by decide), c_ishr c 18 18 (by decide)⟩
theorem own_63 (x : Int32) : (x &&& 63).toInt = x.toInt % 64 := c_mask x 63 6 (by decide) (by decide)
theorem own_128 {x : Int32} (h0 : 0 ≤ x.toInt) (h1 : x.toInt < 64) : (own_b ((128 : Int32) ||| x) &&& 255).toInt = 128 + x.toInt := by
  have k : (128 : Int32).toInt = 128 := by decide
  have q := own_orc 128 x 6 (by decide) 64 rfl (by omega) h0 h1 (by omega) (by omega)
  rw [own_byte (by omega) (by omega), q, k]
theorem own_c2 {c t b0 b1 : Int32} {f : Int32 → Int32} (hc : 128 ≤ c.toInt) (h1 : c < 2048) (ht : ¬ t < 0) (ht4 : t < 4) (e0 : (own_enc c t f t &&& 255) = b0) (e1 : (own_enc c t f (t + 1) &&& 255) = b1) : b0.toInt = 192 + c.toInt / 64 ∧ b1.toInt = 128 + c.toInt % 64 := by
  obtain ⟨a0, a4, a1, a2, a3, a5⟩ := own_ti ht ht4
  have k : (2048 : Int32).toInt = 2048 := by decide
  have k' : (192 : Int32).toInt = 192 := by decide
  have s := own_sh c
  have m := own_63 c
  unfold own_enc at e0 e1
  rw [if_pos h1] at e0 e1
  rw [own_setne (own_ne (by omega)), own_seteq] at e0
  rw [own_seteq] at e1
  rw [Int32.lt_iff_toInt_lt, k] at h1
  refine ⟨?_, ?_⟩
  · rw [← e0]
    have q := own_orc 192 (c >>> ((6 : Int32) &&& 31)) 6 (by decide) 64 rfl (by omega) (by omega) (by omega) (by omega) (by omega)
    rw [own_byte (by omega) (by omega), q, k', s.1]
  · rw [← e1, own_128 (by omega) (by omega), m]
theorem own_c3 {c t b0 b1 b2 : Int32} {f : Int32 → Int32} (hc : 128 ≤ c.toInt) (h1 : ¬ c < 2048) (h2 : c < 65536) (ht : ¬ t < 0) (ht4 : t < 4) (e0 : (own_enc c t f t &&& 255) = b0) (e1 : (own_enc c t f (t + 1) &&& 255) = b1) (e2 : (own_enc c t f (t + 2) &&& 255) = b2) : b0.toInt = 224 + c.toInt / 4096 ∧ b1.toInt = 128 + c.toInt / 64 % 64 ∧ b2.toInt = 128 + c.toInt % 64 := by
  obtain ⟨a0, a4, a1, a2, a3, a5⟩ := own_ti ht ht4
  have k : (65536 : Int32).toInt = 65536 := by decide
  have k' : (224 : Int32).toInt = 224 := by decide
  have s := own_sh c
  have m := own_63 c
  have m2 := own_63 (c >>> ((6 : Int32) &&& 31))
  unfold own_enc at e0 e1 e2
  rw [if_neg h1, if_pos h2] at e0 e1 e2
  rw [own_setne (own_ne (by omega)), own_setne (own_ne (by omega)), own_seteq] at e0
  rw [own_setne (own_ne (by omega)), own_seteq] at e1
  rw [own_seteq] at e2
  rw [Int32.lt_iff_toInt_lt, k] at h2
  refine ⟨?_, ?_, ?_⟩
  · rw [← e0]
    have q := own_orc 224 (c >>> ((12 : Int32) &&& 31)) 5 (by decide) 32 rfl (by omega) (by omega) (by omega) (by omega) (by omega)
    rw [own_byte (by omega) (by omega), q, k', s.2.1]
  · rw [← e1, own_128 (by omega) (by omega), m2, s.1]
  · rw [← e2, own_128 (by omega) (by omega), m]
theorem own_c4 {c t b0 b1 b2 b3 : Int32} {f : Int32 → Int32} (hc : 128 ≤ c.toInt) (hc2 : c.toInt < 1114112) (h1 : ¬ c < 2048) (h2 : ¬ c < 65536) (ht : ¬ t < 0) (ht4 : t < 4) (e0 : (own_enc c t f t &&& 255) = b0) (e1 : (own_enc c t f (t + 1) &&& 255) = b1) (e2 : (own_enc c t f (t + 2) &&& 255) = b2) (e3 : (own_enc c t f (t + 3) &&& 255) = b3) : b0.toInt = 240 + c.toInt / 262144 ∧ b1.toInt = 128 + c.toInt / 4096 % 64 ∧ b2.toInt = 128 + c.toInt / 64 % 64 ∧ b3.toInt = 128 + c.toInt % 64 := by
  obtain ⟨a0, a4, a1, a2, a3, a5⟩ := own_ti ht ht4
  have k' : (240 : Int32).toInt = 240 := by decide
  have s := own_sh c
  have m := own_63 c
  have m2 := own_63 (c >>> ((6 : Int32) &&& 31))
  have m3 := own_63 (c >>> ((12 : Int32) &&& 31))
  unfold own_enc at e0 e1 e2 e3
  rw [if_neg h1, if_neg h2] at e0 e1 e2 e3
  rw [own_setne (own_ne (by omega)), own_setne (own_ne (by omega)), own_setne (own_ne (by omega)), own_seteq] at e0
  rw [own_setne (own_ne (by omega)), own_setne (own_ne (by omega)), own_seteq] at e1
  rw [own_setne (own_ne (by omega)), own_seteq] at e2
  rw [own_seteq] at e3
  refine ⟨?_, ?_, ?_, ?_⟩
  · rw [← e0]
    have q := own_orc 240 (c >>> ((18 : Int32) &&& 31)) 4 (by decide) 16 rfl (by omega) (by omega) (by omega) (by omega) (by omega)
    rw [own_byte (by omega) (by omega), q, k', s.2.2]
  · rw [← e1, own_128 (by omega) (by omega), m3, s.2.1]
  · rw [← e2, own_128 (by omega) (by omega), m2, s.1]
  · rw [← e3, own_128 (by omega) (by omega), m]
theorem own_shl (x q : Int32) (k : Nat) (hk : q.toBitVec.toNat % 32 = k) (h0 : 0 ≤ x.toInt) (h1 : x.toInt * (2 ^ k : Nat) < 2147483648) : (x <<< (q &&& 31)).toInt = x.toInt * (2 ^ k : Nat) := by
  have a := c_ishl x q k hk
  have r := rng32 (x <<< (q &&& 31))
  have p : 0 ≤ x.toInt * (2 ^ k : Nat) := Int.mul_nonneg h0 (Int.natCast_nonneg _)
  omega
theorem own_v2 {c b0 b1 : Int32} (h0 : 0 ≤ c.toInt) (h1 : c.toInt < 2048) (e0 : b0.toInt = 192 + c.toInt / 64) (e1 : b1.toInt = 128 + c.toInt % 64) : (((b0 &&& (31 : Int32)) <<< ((6 : Int32) &&& 31)) ||| (b1 &&& (63 : Int32))) = c := by
  have a : (b0 &&& 31).toInt = b0.toInt % 32 := c_mask b0 31 5 (by decide) (by decide)
  have b := own_63 b1
  have s : ((b0 &&& 31) <<< ((6 : Int32) &&& 31)).toInt = (b0 &&& 31).toInt * 64 := own_shl _ 6 6 (by decide) (by omega) (by omega)
  have q := own_orc ((b0 &&& 31) <<< ((6 : Int32) &&& 31)) (b1 &&& 63) 6 (by decide) 64 rfl (by omega) (by omega) (by omega) (by omega) (by omega)
  exact Int32.toInt_inj.mp (by omega)
theorem own_v3 {c b0 b1 b2 : Int32} (h0 : 0 ≤ c.toInt) (h1 : c.toInt < 65536) (e0 : b0.toInt = 224 + c.toInt / 4096) (e1 : b1.toInt = 128 + c.toInt / 64 % 64) (e2 : b2.toInt = 128 + c.toInt % 64) : ((((b0 &&& (15 : Int32)) <<< ((12 : Int32) &&& 31)) ||| ((b1 &&& (63 : Int32)) <<< ((6 : Int32) &&& 31))) ||| (b2 &&& (63 : Int32))) = c := by
  have a : (b0 &&& 15).toInt = b0.toInt % 16 := c_mask b0 15 4 (by decide) (by decide)
  have b := own_63 b1
  have d := own_63 b2
  have s : ((b0 &&& 15) <<< ((12 : Int32) &&& 31)).toInt = (b0 &&& 15).toInt * 4096 := own_shl _ 12 12 (by decide) (by omega) (by omega)
  have s2 : ((b1 &&& 63) <<< ((6 : Int32) &&& 31)).toInt = (b1 &&& 63).toInt * 64 := own_shl _ 6 6 (by decide) (by omega) (by omega)
  have q := own_orc ((b0 &&& 15) <<< ((12 : Int32) &&& 31)) ((b1 &&& 63) <<< ((6 : Int32) &&& 31)) 12 (by decide) 4096 rfl (by omega) (by omega) (by omega) (by omega) (by omega)
  have q2 := own_orc (((b0 &&& 15) <<< ((12 : Int32) &&& 31)) ||| ((b1 &&& 63) <<< ((6 : Int32) &&& 31))) (b2 &&& 63) 6 (by decide) 64 rfl (by omega) (by omega) (by omega) (by omega) (by omega)
  exact Int32.toInt_inj.mp (by omega)
theorem own_v4 {c b0 b1 b2 b3 : Int32} (h0 : 0 ≤ c.toInt) (h1 : c.toInt < 1114112) (e0 : b0.toInt = 240 + c.toInt / 262144) (e1 : b1.toInt = 128 + c.toInt / 4096 % 64) (e2 : b2.toInt = 128 + c.toInt / 64 % 64) (e3 : b3.toInt = 128 + c.toInt % 64) : (((((b0 &&& (7 : Int32)) <<< ((18 : Int32) &&& 31)) ||| ((b1 &&& (63 : Int32)) <<< ((12 : Int32) &&& 31))) ||| ((b2 &&& (63 : Int32)) <<< ((6 : Int32) &&& 31))) ||| (b3 &&& (63 : Int32))) = c := by
  have a : (b0 &&& 7).toInt = b0.toInt % 8 := c_mask b0 7 3 (by decide) (by decide)
  have b := own_63 b1
  have d := own_63 b2
  have d' := own_63 b3
  have s : ((b0 &&& 7) <<< ((18 : Int32) &&& 31)).toInt = (b0 &&& 7).toInt * 262144 := own_shl _ 18 18 (by decide) (by omega) (by omega)
  have s2 : ((b1 &&& 63) <<< ((12 : Int32) &&& 31)).toInt = (b1 &&& 63).toInt * 4096 := own_shl _ 12 12 (by decide) (by omega) (by omega)
  have s3 : ((b2 &&& 63) <<< ((6 : Int32) &&& 31)).toInt = (b2 &&& 63).toInt * 64 := own_shl _ 6 6 (by decide) (by omega) (by omega)
  have q := own_orc ((b0 &&& 7) <<< ((18 : Int32) &&& 31)) ((b1 &&& 63) <<< ((12 : Int32) &&& 31)) 18 (by decide) 262144 rfl (by omega) (by omega) (by omega) (by omega) (by omega)
  have q2 := own_orc (((b0 &&& 7) <<< ((18 : Int32) &&& 31)) ||| ((b1 &&& 63) <<< ((12 : Int32) &&& 31))) ((b2 &&& 63) <<< ((6 : Int32) &&& 31)) 12 (by decide) 4096 rfl (by omega) (by omega) (by omega) (by omega) (by omega)
  have q3 := own_orc ((((b0 &&& 7) <<< ((18 : Int32) &&& 31)) ||| ((b1 &&& 63) <<< ((12 : Int32) &&& 31))) ||| ((b2 &&& 63) <<< ((6 : Int32) &&& 31))) (b3 &&& 63) 6 (by decide) 64 rfl (by omega) (by omega) (by omega) (by omega) (by omega)
  exact Int32.toInt_inj.mp (by omega)
theorem own_z2 {c z : Int32} (hz : z = if c < (2048 : Int32) then (2 : Int32) else (if c < (65536 : Int32) then (3 : Int32) else (4 : Int32))) (h : z = (2 : Int32)) : c < 2048 := by
  by_cases a : c < (2048 : Int32)
  · exact a
  · rw [if_neg a] at hz
    by_cases b : c < (65536 : Int32)
    · rw [if_pos b, h] at hz; exact absurd hz (by decide)
    · rw [if_neg b, h] at hz; exact absurd hz (by decide)
theorem own_z3 {c z : Int32} (hz : z = if c < (2048 : Int32) then (2 : Int32) else (if c < (65536 : Int32) then (3 : Int32) else (4 : Int32))) (h : ¬ z = (2 : Int32)) : ¬ c < 2048 := fun a => h (by rw [if_pos a] at hz; exact hz)
theorem own_z3' {c z : Int32} (hz : z = if c < (2048 : Int32) then (2 : Int32) else (if c < (65536 : Int32) then (3 : Int32) else (4 : Int32))) (h : z = (3 : Int32)) : c < 65536 := by
  by_cases a : c < (2048 : Int32)
  · rw [if_pos a, h] at hz; exact absurd hz (by decide)
  · rw [if_neg a] at hz
    by_cases b : c < (65536 : Int32)
    · exact b
    · rw [if_neg b, h] at hz; exact absurd hz (by decide)
theorem own_z4 {c z : Int32} (hz : z = if c < (2048 : Int32) then (2 : Int32) else (if c < (65536 : Int32) then (3 : Int32) else (4 : Int32))) (h : ¬ z = (2 : Int32)) (h3 : ¬ z = (3 : Int32)) : ¬ c < 65536 := fun b => by
  rw [if_neg (own_z3 hz h), if_pos b] at hz
  exact h3 hz

theorem own_pd0 : parseMethodDescriptor "(I[BI)I" = some ⟨[.int, (.array .byte), .int], some .int⟩ := by decide +kernel
theorem own_pd1 : parseMethodDescriptor "([BIIIB)Z" = some ⟨[(.array .byte), .int, .int, .int, .byte], some .boolean⟩ := by decide +kernel
theorem own_pd2 : parseMethodDescriptor "(I)Z" = some ⟨[.int], some .boolean⟩ := by decide +kernel
theorem own_ef0 (m : MethodId) (x0 : Int32) (x1 : Int32) (x2 : Int32) : entryFrame m #[(.int x0), (.int x1), (.int x2)] maxLocals = mkF m 0 #[.val (.int x0), .val (.int x1), .val (.int x2), .unset, .unset, .unset, .unset, .unset, .unset, .unset, .unset, .unset, .unset, .unset] [] := by first | (simp [entryFrame, mkF, argsToLocals, Value.category, maxLocals]; done) | rfl
def Q0 (Z : State) (p0 : Int32) (p1 : Int32) (p2 : Int32) (h0 : Heap) (n0 : Nat) (v : Option Value) (h : Heap) (L : List Loc) : Prop := v = some (.int 1) ∧ Fr n0 L
set_option maxRecDepth 65536 in
set_option maxHeartbeats 40000000 in
theorem rm0 (l : Launch) (Z : State) (aw : Array Value) (hw : ∀ d ∈ tables_1, d.before aw Z = true) (ws : List Jvm.Cond) (p0 : Int32) (p1 : Int32) (p2 : Int32) (h0 : Heap) (n0 : Nat) (Z0 : n0 ≤ h0.size) :
    MetFree l x (head1 (Jvm.Cond.code x code maxLocals ret :: ws) room_1) (fun a U => a = #[(.int p0), (.int p1), (.int p2)] ∧ Z.Warmed39 U.vm ∧ U.heap = h0) (fun _ _ _ _ _ => True) (fun _ U o U' => ∃ v L, o = .returned v ∧ (Q0 Z p0 p1 p2 h0 n0) v U'.heap L ∧ FrameEnd U o U' L room_1.cells room_1.slots) := by
  refine MetFree.of_bodySF (plainFor_of_name own_pn0) hisR ?_
  intro p e s m args below meth c s₁ Bd hml0 hP hK
  obtain ⟨rfl, hZ, hh⟩ := hP
  have hx := Bd.exec
  have hby := Bd.bytes
  have hml : c.maxLocals = 14 := hml0
  have hown : s.vm.findClass "com/example/eunomia/eunomia/Utf8OutputEncodePinLaw" = some m.cls := findClass_of_methodNamed Bd.named
  have hnm := (name_of_methodNamed Bd.named Bd.method).1
  have hlk : meth.locks = false := BodyLoose.notSynchronized (by assumption)
  have X0 : Stand p l e room_1 s m #[(.int p0), (.int p1), (.int p2)] below meth c s₁ [] 0 0 := Stand.of_body Bd
  have e0 : s₁.heap = h0 := by rw [← hh, Bd.state]; rfl
  have N0 := Fr.nil n0
  show own_Done p e below s (Q0 Z p0 p1 p2 h0 n0) room_1.cells room_1.slots (s₁.setTop (entryFrame m #[(.int p0), (.int p1), (.int p2)] maxLocals))
  refine own_go (U' := s₁.setTop (mkF m 0 #[.val (.int p0), .val (.int p1), .val (.int p2), .unset, .unset, .unset, .unset, .unset, .unset, .unset, .unset, .unset, .unset, .unset] [])) (fun _ k => castTop (own_ef0 m p0 p1 p2) k) ?_
  refine own_go (U' := s₁.setTop (mkF m 3 #[.val (.int p0), .val (.int p1), .val (.int p2), .unset, .unset, .unset, .unset, .unset, .unset, .unset, .unset, .unset, .unset, .unset] [(.int (128 : Int32))])) (fun _ k => XS.sipush X0.here hx rfl (hb hby at_0) k) ?_
  refine own_go (U' := s₁.setTop (mkF m 4 #[.val (.int p0), .val (.int p1), .val (.int p2), .unset, .unset, .unset, .unset, .unset, .unset, .unset, .unset, .unset, .unset, .unset] [(.int p0), (.int (128 : Int32))])) (fun _ k => XS.iloadN X0.here hx rfl (hb hby at_3) rfl k) ?_
  refine own_go (U' := s₁.setTop (mkF m 6 #[.val (.int p0), .val (.int p1), .val (.int p2), .unset, .unset, .unset, .unset, .unset, .unset, .unset, .unset, .unset, .unset, .unset] [(.int (2147483647 : Int32)), (.int p0), (.int (128 : Int32))])) (fun _ k => X0.ldcInt hx hown (mvT hZ (hw _ (List.mem_of_getElem? (i := 0) rfl))) (g := (mkF m 4 #[.val (.int p0), .val (.int p1), .val (.int p2), .unset, .unset, .unset, .unset, .unset, .unset, .unset, .unset, .unset, .unset, .unset] [(.int p0), (.int (128 : Int32))])) rfl (hb hby at_4) _ k) ?_
  refine own_go (U' := s₁.setTop (mkF m 7 #[.val (.int p0), .val (.int p1), .val (.int p2), .unset, .unset, .unset, .unset, .unset, .unset, .unset, .unset, .unset, .unset, .unset] [(.int (p0 &&& (2147483647 : Int32))), (.int (128 : Int32))])) (fun _ k => XS.iand X0.here hx rfl (hb hby at_6) rfl k) ?_
  refine own_go (U' := s₁.setTop (mkF m 9 #[.val (.int p0), .val (.int p1), .val (.int p2), .unset, .unset, .unset, .unset, .unset, .unset, .unset, .unset, .unset, .unset, .unset] [(.int (1113984 : Int32)), (.int (p0 &&& (2147483647 : Int32))), (.int (128 : Int32))])) (fun _ k => X0.ldcInt hx hown (mvT hZ (hw _ (List.mem_of_getElem? (i := 1) rfl))) (g := (mkF m 7 #[.val (.int p0), .val (.int p1), .val (.int p2), .unset, .unset, .unset, .unset, .unset, .unset, .unset, .unset, .unset, .unset, .unset] [(.int (p0 &&& (2147483647 : Int32))), (.int (128 : Int32))])) rfl (hb hby at_7) _ k) ?_
  refine own_go (U' := s₁.setTop (mkF m 10 #[.val (.int p0), .val (.int p1), .val (.int p2), .unset, .unset, .unset, .unset, .unset, .unset, .unset, .unset, .unset, .unset, .unset] [(.int ((p0 &&& (2147483647 : Int32)) % (1113984 : Int32))), (.int (128 : Int32))])) (fun _ k => iremM X0 hx rfl (hb hby at_9) rfl (by decide) k) ?_
  refine own_go (U' := s₁.setTop (mkF m 11 #[.val (.int p0), .val (.int p1), .val (.int p2), .unset, .unset, .unset, .unset, .unset, .unset, .unset, .unset, .unset, .unset, .unset] [(.int ((128 : Int32) + ((p0 &&& (2147483647 : Int32)) % (1113984 : Int32))))])) (fun _ k => XS.iadd X0.here hx rfl (hb hby at_10) rfl k) ?_
  generalize hy11 : ((128 : Int32) + ((p0 &&& (2147483647 : Int32)) % (1113984 : Int32))) = y11
  refine own_go (U' := s₁.setTop (mkF m 12 #[.val (.int p0), .val (.int p1), .val (.int p2), .val (.int y11), .unset, .unset, .unset, .unset, .unset, .unset, .unset, .unset, .unset, .unset] [])) (fun _ k => XS.istoreN X0.here hx rfl (hb hby at_11) rfl (l' := #[.val (.int p0), .val (.int p1), .val (.int p2), .val (.int y11), .unset, .unset, .unset, .unset, .unset, .unset, .unset, .unset, .unset, .unset]) rfl k) ?_
  refine own_go (U' := s₁.setTop (mkF m 13 #[.val (.int p0), .val (.int p1), .val (.int p2), .val (.int y11), .unset, .unset, .unset, .unset, .unset, .unset, .unset, .unset, .unset, .unset] [(.int p1)])) (fun _ k => XS.iloadN X0.here hx rfl (hb hby at_12) rfl k) ?_
  refine own_go (U' := s₁.setTop (mkF m 14 #[.val (.int p0), .val (.int p1), .val (.int p2), .val (.int y11), .unset, .unset, .unset, .unset, .unset, .unset, .unset, .unset, .unset, .unset] [(.int (3 : Int32)), (.int p1)])) (fun _ k => XS.iconst X0.here hx rfl (hb hby at_13) k) ?_
  refine own_go (U' := s₁.setTop (mkF m 15 #[.val (.int p0), .val (.int p1), .val (.int p2), .val (.int y11), .unset, .unset, .unset, .unset, .unset, .unset, .unset, .unset, .unset, .unset] [(.int (p1 &&& (3 : Int32)))])) (fun _ k => XS.iand X0.here hx rfl (hb hby at_14) rfl k) ?_
  generalize hy15 : (p1 &&& (3 : Int32)) = y15
  refine own_go (U' := s₁.setTop (mkF m 17 #[.val (.int p0), .val (.int p1), .val (.int p2), .val (.int y11), .val (.int y15), .unset, .unset, .unset, .unset, .unset, .unset, .unset, .unset, .unset] [])) (fun _ k => XS.istore X0.here hx rfl (hb hby at_15) rfl (l' := #[.val (.int p0), .val (.int p1), .val (.int p2), .val (.int y11), .val (.int y15), .unset, .unset, .unset, .unset, .unset, .unset, .unset, .unset, .unset]) rfl k) ?_
  refine own_go (U' := s₁.setTop (mkF m 18 #[.val (.int p0), .val (.int p1), .val (.int p2), .val (.int y11), .val (.int y15), .unset, .unset, .unset, .unset, .unset, .unset, .unset, .unset, .unset] [(.int p2)])) (fun _ k => XS.iloadN X0.here hx rfl (hb hby at_17) rfl k) ?_
  refine own_go (U' := s₁.setTop (mkF m 19 #[.val (.int p0), .val (.int p1), .val (.int p2), .val (.int y11), .val (.int y15), .unset, .unset, .unset, .unset, .unset, .unset, .unset, .unset, .unset] [(.int (p2.toInt8.toInt32))])) (fun _ k => XS.i2b X0.here hx rfl (hb hby at_18) rfl k) ?_
  generalize hy19 : (p2.toInt8.toInt32) = y19
  refine own_go (U' := s₁.setTop (mkF m 21 #[.val (.int p0), .val (.int p1), .val (.int p2), .val (.int y11), .val (.int y15), .val (.int y19), .unset, .unset, .unset, .unset, .unset, .unset, .unset, .unset] [])) (fun _ k => XS.istore X0.here hx rfl (hb hby at_19) rfl (l' := #[.val (.int p0), .val (.int p1), .val (.int p2), .val (.int y11), .val (.int y15), .val (.int y19), .unset, .unset, .unset, .unset, .unset, .unset, .unset, .unset]) rfl k) ?_
  refine own_go (U' := s₁.setTop (mkF m 23 #[.val (.int p0), .val (.int p1), .val (.int p2), .val (.int y11), .val (.int y15), .val (.int y19), .unset, .unset, .unset, .unset, .unset, .unset, .unset, .unset] [(.int (8 : Int32))])) (fun _ k => XS.bipush X0.here hx rfl (hb hby at_21) k) ?_
  obtain ⟨T28, h28, k28, X28, e28, E28, A28, st28⟩ := newP X0 hx hZ (hw _ (List.mem_of_getElem? (i := 2) rfl)) e0 (g := (mkF m 23 #[.val (.int p0), .val (.int p1), .val (.int p2), .val (.int y11), .val (.int y15), .val (.int y19), .unset, .unset, .unset, .unset, .unset, .unset, .unset, .unset] [(.int (8 : Int32))])) rfl (hb hby at_23) rfl (by decide) (cap := 8) (by decide) (by decide) (by decide) (by decide)
  obtain ⟨b28, g28⟩ : ∃ z, z = h0.size := ⟨_, rfl⟩
  have g_b28 : n0 ≤ b28 := Nat.le_trans Z0 (Nat.le_of_eq g28.symm)
  have sz_b28 : h0.size ≤ b28 := Nat.le_trans (Keep.refl h0 []).1 (Nat.le_of_eq g28.symm)
  rw [← g28] at A28 st28
  have Z28 : n0 ≤ h28.size := Nat.le_trans Z0 E28.1
  have K28 := Keep.ext (Keep.refl h0 []) E28
  have V_b28 : own_Arf Z h28 b28 k28 .byte (8 : Int32) (fun _ => (0 : Int32)) := own_Arf.new A28 (by decide) rfl
  refine own_go (U' := T28.setTop (mkF m 25 #[.val (.int p0), .val (.int p1), .val (.int p2), .val (.int y11), .val (.int y15), .val (.int y19), .unset, .unset, .unset, .unset, .unset, .unset, .unset, .unset] [(.ref b28)])) (fun _ k => st28 _ k) ?_
  refine own_go (U' := T28.setTop (mkF m 27 #[.val (.int p0), .val (.int p1), .val (.int p2), .val (.int y11), .val (.int y15), .val (.int y19), .val (.ref b28), .unset, .unset, .unset, .unset, .unset, .unset, .unset] [])) (fun _ k => XS.astore X28.here hx rfl (hb hby at_25) rfl rfl (l' := #[.val (.int p0), .val (.int p1), .val (.int p2), .val (.int y11), .val (.int y15), .val (.int y19), .val (.ref b28), .unset, .unset, .unset, .unset, .unset, .unset, .unset]) rfl k) ?_
  refine own_go (U' := T28.setTop (mkF m 29 #[.val (.int p0), .val (.int p1), .val (.int p2), .val (.int y11), .val (.int y15), .val (.int y19), .val (.ref b28), .unset, .unset, .unset, .unset, .unset, .unset, .unset] [(.ref b28)])) (fun _ k => XS.aload X28.here hx rfl (hb hby at_27) rfl rfl k) ?_
  refine own_go (U' := T28.setTop (mkF m 30 #[.val (.int p0), .val (.int p1), .val (.int p2), .val (.int y11), .val (.int y15), .val (.int y19), .val (.ref b28), .unset, .unset, .unset, .unset, .unset, .unset, .unset] [(.int (0 : Int32)), (.ref b28)])) (fun _ k => XS.iconst X28.here hx rfl (hb hby at_29) k) ?_
  refine own_go (U' := T28.setTop (mkF m 32 #[.val (.int p0), .val (.int p1), .val (.int p2), .val (.int y11), .val (.int y15), .val (.int y19), .val (.ref b28), .unset, .unset, .unset, .unset, .unset, .unset, .unset] [(.int y19), (.int (0 : Int32)), (.ref b28)])) (fun _ k => XS.iload X28.here hx rfl (hb hby at_30) rfl k) ?_
  have V29 := V_b28
  obtain ⟨cl29, Ar29, q29, S29, Ng29, Hh29⟩ := V29
  have hj29 : ¬ (0 : Int32) < 0 ∧ (0 : Int32) < (8 : Int32) := ⟨by decide, by decide⟩
  obtain ⟨T30, h30, X30, e30, W30, st30⟩ := stB X28 hx hZ e28 Ar29 (j := (0 : Int32)) (inb_of S29 hj29) (g := (mkF m 32 #[.val (.int p0), .val (.int p1), .val (.int p2), .val (.int y11), .val (.int y15), .val (.int y19), .val (.ref b28), .unset, .unset, .unset, .unset, .unset, .unset, .unset] [(.int y19), (.int (0 : Int32)), (.ref b28)])) rfl rfl (hb hby at_32)
  obtain ⟨f32, hf32⟩ : ∃ F_ : Int32 → Int32, F_ = (fun i : Int32 => if i = (0 : Int32) then y19.toInt8.toInt32 else (fun _ => (0 : Int32)) i) := ⟨_, rfl⟩
  have w30 : own_Arf Z h30 b28 k28 .byte (8 : Int32) f32 := by rw [hf32]; exact own_Arf.set Ar29 q29 S29 Ng29 Hh29 hj29 W30
  have Z30 : n0 ≤ h30.size := Nat.le_trans Z28 (Keep.of_wr W30).1
  have K30 := Keep.wr K28 W30 (Or.inr sz_b28)
  have N30 := Fr.snoc X30 N0 g_b28
  refine own_go (U' := T30.setTop (mkF m 33 #[.val (.int p0), .val (.int p1), .val (.int p2), .val (.int y11), .val (.int y15), .val (.int y19), .val (.ref b28), .unset, .unset, .unset, .unset, .unset, .unset, .unset] [])) (fun _ k => st30 _ k) ?_
  refine own_go (U' := T30.setTop (mkF m 35 #[.val (.int p0), .val (.int p1), .val (.int p2), .val (.int y11), .val (.int y15), .val (.int y19), .val (.ref b28), .unset, .unset, .unset, .unset, .unset, .unset, .unset] [(.ref b28)])) (fun _ k => XS.aload X30.here hx rfl (hb hby at_33) rfl rfl k) ?_
  refine own_go (U' := T30.setTop (mkF m 36 #[.val (.int p0), .val (.int p1), .val (.int p2), .val (.int y11), .val (.int y15), .val (.int y19), .val (.ref b28), .unset, .unset, .unset, .unset, .unset, .unset, .unset] [(.int (1 : Int32)), (.ref b28)])) (fun _ k => XS.iconst X30.here hx rfl (hb hby at_35) k) ?_
  refine own_go (U' := T30.setTop (mkF m 38 #[.val (.int p0), .val (.int p1), .val (.int p2), .val (.int y11), .val (.int y15), .val (.int y19), .val (.ref b28), .unset, .unset, .unset, .unset, .unset, .unset, .unset] [(.int y19), (.int (1 : Int32)), (.ref b28)])) (fun _ k => XS.iload X30.here hx rfl (hb hby at_36) rfl k) ?_
  have V31 := w30
  obtain ⟨cl31, Ar31, q31, S31, Ng31, Hh31⟩ := V31
  have hj31 : ¬ (1 : Int32) < 0 ∧ (1 : Int32) < (8 : Int32) := ⟨by decide, by decide⟩
  obtain ⟨T32, h32, X32, e32, W32, st32⟩ := stB X30 hx hZ e30 Ar31 (j := (1 : Int32)) (inb_of S31 hj31) (g := (mkF m 38 #[.val (.int p0), .val (.int p1), .val (.int p2), .val (.int y11), .val (.int y15), .val (.int y19), .val (.ref b28), .unset, .unset, .unset, .unset, .unset, .unset, .unset] [(.int y19), (.int (1 : Int32)), (.ref b28)])) rfl rfl (hb hby at_38)
  obtain ⟨f38, hf38⟩ : ∃ F_ : Int32 → Int32, F_ = (fun i : Int32 => if i = (1 : Int32) then y19.toInt8.toInt32 else f32 i) := ⟨_, rfl⟩
  have w32 : own_Arf Z h32 b28 k28 .byte (8 : Int32) f38 := by rw [hf38]; exact own_Arf.set Ar31 q31 S31 Ng31 Hh31 hj31 W32
  have Z32 : n0 ≤ h32.size := Nat.le_trans Z30 (Keep.of_wr W32).1
  have K32 := Keep.wr K30 W32 (Or.inr sz_b28)
  have N32 := Fr.snoc X32 N30 g_b28
  refine own_go (U' := T32.setTop (mkF m 39 #[.val (.int p0), .val (.int p1), .val (.int p2), .val (.int y11), .val (.int y15), .val (.int y19), .val (.ref b28), .unset, .unset, .unset, .unset, .unset, .unset, .unset] [])) (fun _ k => st32 _ k) ?_
  refine own_go (U' := T32.setTop (mkF m 41 #[.val (.int p0), .val (.int p1), .val (.int p2), .val (.int y11), .val (.int y15), .val (.int y19), .val (.ref b28), .unset, .unset, .unset, .unset, .unset, .unset, .unset] [(.ref b28)])) (fun _ k => XS.aload X32.here hx rfl (hb hby at_39) rfl rfl k) ?_
  refine own_go (U' := T32.setTop (mkF m 42 #[.val (.int p0), .val (.int p1), .val (.int p2), .val (.int y11), .val (.int y15), .val (.int y19), .val (.ref b28), .unset, .unset, .unset, .unset, .unset, .unset, .unset] [(.int (2 : Int32)), (.ref b28)])) (fun _ k => XS.iconst X32.here hx rfl (hb hby at_41) k) ?_
  refine own_go (U' := T32.setTop (mkF m 44 #[.val (.int p0), .val (.int p1), .val (.int p2), .val (.int y11), .val (.int y15), .val (.int y19), .val (.ref b28), .unset, .unset, .unset, .unset, .unset, .unset, .unset] [(.int y19), (.int (2 : Int32)), (.ref b28)])) (fun _ k => XS.iload X32.here hx rfl (hb hby at_42) rfl k) ?_
  have V33 := w32
  obtain ⟨cl33, Ar33, q33, S33, Ng33, Hh33⟩ := V33
  have hj33 : ¬ (2 : Int32) < 0 ∧ (2 : Int32) < (8 : Int32) := ⟨by decide, by decide⟩
  obtain ⟨T34, h34, X34, e34, W34, st34⟩ := stB X32 hx hZ e32 Ar33 (j := (2 : Int32)) (inb_of S33 hj33) (g := (mkF m 44 #[.val (.int p0), .val (.int p1), .val (.int p2), .val (.int y11), .val (.int y15), .val (.int y19), .val (.ref b28), .unset, .unset, .unset, .unset, .unset, .unset, .unset] [(.int y19), (.int (2 : Int32)), (.ref b28)])) rfl rfl (hb hby at_44)
  obtain ⟨f44, hf44⟩ : ∃ F_ : Int32 → Int32, F_ = (fun i : Int32 => if i = (2 : Int32) then y19.toInt8.toInt32 else f38 i) := ⟨_, rfl⟩
  have w34 : own_Arf Z h34 b28 k28 .byte (8 : Int32) f44 := by rw [hf44]; exact own_Arf.set Ar33 q33 S33 Ng33 Hh33 hj33 W34
  have Z34 : n0 ≤ h34.size := Nat.le_trans Z32 (Keep.of_wr W34).1
  have K34 := Keep.wr K32 W34 (Or.inr sz_b28)
  have N34 := Fr.snoc X34 N32 g_b28
  refine own_go (U' := T34.setTop (mkF m 45 #[.val (.int p0), .val (.int p1), .val (.int p2), .val (.int y11), .val (.int y15), .val (.int y19), .val (.ref b28), .unset, .unset, .unset, .unset, .unset, .unset, .unset] [])) (fun _ k => st34 _ k) ?_
  refine own_go (U' := T34.setTop (mkF m 47 #[.val (.int p0), .val (.int p1), .val (.int p2), .val (.int y11), .val (.int y15), .val (.int y19), .val (.ref b28), .unset, .unset, .unset, .unset, .unset, .unset, .unset] [(.ref b28)])) (fun _ k => XS.aload X34.here hx rfl (hb hby at_45) rfl rfl k) ?_
  refine own_go (U' := T34.setTop (mkF m 48 #[.val (.int p0), .val (.int p1), .val (.int p2), .val (.int y11), .val (.int y15), .val (.int y19), .val (.ref b28), .unset, .unset, .unset, .unset, .unset, .unset, .unset] [(.int (3 : Int32)), (.ref b28)])) (fun _ k => XS.iconst X34.here hx rfl (hb hby at_47) k) ?_
  refine own_go (U' := T34.setTop (mkF m 50 #[.val (.int p0), .val (.int p1), .val (.int p2), .val (.int y11), .val (.int y15), .val (.int y19), .val (.ref b28), .unset, .unset, .unset, .unset, .unset, .unset, .unset] [(.int y19), (.int (3 : Int32)), (.ref b28)])) (fun _ k => XS.iload X34.here hx rfl (hb hby at_48) rfl k) ?_
  have V35 := w34
  obtain ⟨cl35, Ar35, q35, S35, Ng35, Hh35⟩ := V35
  have hj35 : ¬ (3 : Int32) < 0 ∧ (3 : Int32) < (8 : Int32) := ⟨by decide, by decide⟩
  obtain ⟨T36, h36, X36, e36, W36, st36⟩ := stB X34 hx hZ e34 Ar35 (j := (3 : Int32)) (inb_of S35 hj35) (g := (mkF m 50 #[.val (.int p0), .val (.int p1), .val (.int p2), .val (.int y11), .val (.int y15), .val (.int y19), .val (.ref b28), .unset, .unset, .unset, .unset, .unset, .unset, .unset] [(.int y19), (.int (3 : Int32)), (.ref b28)])) rfl rfl (hb hby at_50)
  obtain ⟨f50, hf50⟩ : ∃ F_ : Int32 → Int32, F_ = (fun i : Int32 => if i = (3 : Int32) then y19.toInt8.toInt32 else f44 i) := ⟨_, rfl⟩
  have w36 : own_Arf Z h36 b28 k28 .byte (8 : Int32) f50 := by rw [hf50]; exact own_Arf.set Ar35 q35 S35 Ng35 Hh35 hj35 W36
  have Z36 : n0 ≤ h36.size := Nat.le_trans Z34 (Keep.of_wr W36).1
  have K36 := Keep.wr K34 W36 (Or.inr sz_b28)
  have N36 := Fr.snoc X36 N34 g_b28
  refine own_go (U' := T36.setTop (mkF m 51 #[.val (.int p0), .val (.int p1), .val (.int p2), .val (.int y11), .val (.int y15), .val (.int y19), .val (.ref b28), .unset, .unset, .unset, .unset, .unset, .unset, .unset] [])) (fun _ k => st36 _ k) ?_
  refine own_go (U' := T36.setTop (mkF m 53 #[.val (.int p0), .val (.int p1), .val (.int p2), .val (.int y11), .val (.int y15), .val (.int y19), .val (.ref b28), .unset, .unset, .unset, .unset, .unset, .unset, .unset] [(.ref b28)])) (fun _ k => XS.aload X36.here hx rfl (hb hby at_51) rfl rfl k) ?_
  refine own_go (U' := T36.setTop (mkF m 54 #[.val (.int p0), .val (.int p1), .val (.int p2), .val (.int y11), .val (.int y15), .val (.int y19), .val (.ref b28), .unset, .unset, .unset, .unset, .unset, .unset, .unset] [(.int (4 : Int32)), (.ref b28)])) (fun _ k => XS.iconst X36.here hx rfl (hb hby at_53) k) ?_
  refine own_go (U' := T36.setTop (mkF m 56 #[.val (.int p0), .val (.int p1), .val (.int p2), .val (.int y11), .val (.int y15), .val (.int y19), .val (.ref b28), .unset, .unset, .unset, .unset, .unset, .unset, .unset] [(.int y19), (.int (4 : Int32)), (.ref b28)])) (fun _ k => XS.iload X36.here hx rfl (hb hby at_54) rfl k) ?_
  have V37 := w36
  obtain ⟨cl37, Ar37, q37, S37, Ng37, Hh37⟩ := V37
  have hj37 : ¬ (4 : Int32) < 0 ∧ (4 : Int32) < (8 : Int32) := ⟨by decide, by decide⟩
  obtain ⟨T38, h38, X38, e38, W38, st38⟩ := stB X36 hx hZ e36 Ar37 (j := (4 : Int32)) (inb_of S37 hj37) (g := (mkF m 56 #[.val (.int p0), .val (.int p1), .val (.int p2), .val (.int y11), .val (.int y15), .val (.int y19), .val (.ref b28), .unset, .unset, .unset, .unset, .unset, .unset, .unset] [(.int y19), (.int (4 : Int32)), (.ref b28)])) rfl rfl (hb hby at_56)
  obtain ⟨f56, hf56⟩ : ∃ F_ : Int32 → Int32, F_ = (fun i : Int32 => if i = (4 : Int32) then y19.toInt8.toInt32 else f50 i) := ⟨_, rfl⟩
  have w38 : own_Arf Z h38 b28 k28 .byte (8 : Int32) f56 := by rw [hf56]; exact own_Arf.set Ar37 q37 S37 Ng37 Hh37 hj37 W38
  have Z38 : n0 ≤ h38.size := Nat.le_trans Z36 (Keep.of_wr W38).1
  have K38 := Keep.wr K36 W38 (Or.inr sz_b28)
  have N38 := Fr.snoc X38 N36 g_b28
  refine own_go (U' := T38.setTop (mkF m 57 #[.val (.int p0), .val (.int p1), .val (.int p2), .val (.int y11), .val (.int y15), .val (.int y19), .val (.ref b28), .unset, .unset, .unset, .unset, .unset, .unset, .unset] [])) (fun _ k => st38 _ k) ?_
  refine own_go (U' := T38.setTop (mkF m 59 #[.val (.int p0), .val (.int p1), .val (.int p2), .val (.int y11), .val (.int y15), .val (.int y19), .val (.ref b28), .unset, .unset, .unset, .unset, .unset, .unset, .unset] [(.ref b28)])) (fun _ k => XS.aload X38.here hx rfl (hb hby at_57) rfl rfl k) ?_
  refine own_go (U' := T38.setTop (mkF m 60 #[.val (.int p0), .val (.int p1), .val (.int p2), .val (.int y11), .val (.int y15), .val (.int y19), .val (.ref b28), .unset, .unset, .unset, .unset, .unset, .unset, .unset] [(.int (5 : Int32)), (.ref b28)])) (fun _ k => XS.iconst X38.here hx rfl (hb hby at_59) k) ?_
  refine own_go (U' := T38.setTop (mkF m 62 #[.val (.int p0), .val (.int p1), .val (.int p2), .val (.int y11), .val (.int y15), .val (.int y19), .val (.ref b28), .unset, .unset, .unset, .unset, .unset, .unset, .unset] [(.int y19), (.int (5 : Int32)), (.ref b28)])) (fun _ k => XS.iload X38.here hx rfl (hb hby at_60) rfl k) ?_
  have V39 := w38
  obtain ⟨cl39, Ar39, q39, S39, Ng39, Hh39⟩ := V39
  have hj39 : ¬ (5 : Int32) < 0 ∧ (5 : Int32) < (8 : Int32) := ⟨by decide, by decide⟩
  obtain ⟨T40, h40, X40, e40, W40, st40⟩ := stB X38 hx hZ e38 Ar39 (j := (5 : Int32)) (inb_of S39 hj39) (g := (mkF m 62 #[.val (.int p0), .val (.int p1), .val (.int p2), .val (.int y11), .val (.int y15), .val (.int y19), .val (.ref b28), .unset, .unset, .unset, .unset, .unset, .unset, .unset] [(.int y19), (.int (5 : Int32)), (.ref b28)])) rfl rfl (hb hby at_62)
  obtain ⟨f62, hf62⟩ : ∃ F_ : Int32 → Int32, F_ = (fun i : Int32 => if i = (5 : Int32) then y19.toInt8.toInt32 else f56 i) := ⟨_, rfl⟩
  have w40 : own_Arf Z h40 b28 k28 .byte (8 : Int32) f62 := by rw [hf62]; exact own_Arf.set Ar39 q39 S39 Ng39 Hh39 hj39 W40
  have Z40 : n0 ≤ h40.size := Nat.le_trans Z38 (Keep.of_wr W40).1
  have K40 := Keep.wr K38 W40 (Or.inr sz_b28)
  have N40 := Fr.snoc X40 N38 g_b28
  refine own_go (U' := T40.setTop (mkF m 63 #[.val (.int p0), .val (.int p1), .val (.int p2), .val (.int y11), .val (.int y15), .val (.int y19), .val (.ref b28), .unset, .unset, .unset, .unset, .unset, .unset, .unset] [])) (fun _ k => st40 _ k) ?_
  refine own_go (U' := T40.setTop (mkF m 65 #[.val (.int p0), .val (.int p1), .val (.int p2), .val (.int y11), .val (.int y15), .val (.int y19), .val (.ref b28), .unset, .unset, .unset, .unset, .unset, .unset, .unset] [(.ref b28)])) (fun _ k => XS.aload X40.here hx rfl (hb hby at_63) rfl rfl k) ?_
  refine own_go (U' := T40.setTop (mkF m 67 #[.val (.int p0), .val (.int p1), .val (.int p2), .val (.int y11), .val (.int y15), .val (.int y19), .val (.ref b28), .unset, .unset, .unset, .unset, .unset, .unset, .unset] [(.int (6 : Int32)), (.ref b28)])) (fun _ k => XS.bipush X40.here hx rfl (hb hby at_65) k) ?_
  refine own_go (U' := T40.setTop (mkF m 69 #[.val (.int p0), .val (.int p1), .val (.int p2), .val (.int y11), .val (.int y15), .val (.int y19), .val (.ref b28), .unset, .unset, .unset, .unset, .unset, .unset, .unset] [(.int y19), (.int (6 : Int32)), (.ref b28)])) (fun _ k => XS.iload X40.here hx rfl (hb hby at_67) rfl k) ?_
  have V41 := w40
  obtain ⟨cl41, Ar41, q41, S41, Ng41, Hh41⟩ := V41
  have hj41 : ¬ (6 : Int32) < 0 ∧ (6 : Int32) < (8 : Int32) := ⟨by decide, by decide⟩
  obtain ⟨T42, h42, X42, e42, W42, st42⟩ := stB X40 hx hZ e40 Ar41 (j := (6 : Int32)) (inb_of S41 hj41) (g := (mkF m 69 #[.val (.int p0), .val (.int p1), .val (.int p2), .val (.int y11), .val (.int y15), .val (.int y19), .val (.ref b28), .unset, .unset, .unset, .unset, .unset, .unset, .unset] [(.int y19), (.int (6 : Int32)), (.ref b28)])) rfl rfl (hb hby at_69)
  obtain ⟨f69, hf69⟩ : ∃ F_ : Int32 → Int32, F_ = (fun i : Int32 => if i = (6 : Int32) then y19.toInt8.toInt32 else f62 i) := ⟨_, rfl⟩
  have w42 : own_Arf Z h42 b28 k28 .byte (8 : Int32) f69 := by rw [hf69]; exact own_Arf.set Ar41 q41 S41 Ng41 Hh41 hj41 W42
  have Z42 : n0 ≤ h42.size := Nat.le_trans Z40 (Keep.of_wr W42).1
  have K42 := Keep.wr K40 W42 (Or.inr sz_b28)
  have N42 := Fr.snoc X42 N40 g_b28
  refine own_go (U' := T42.setTop (mkF m 70 #[.val (.int p0), .val (.int p1), .val (.int p2), .val (.int y11), .val (.int y15), .val (.int y19), .val (.ref b28), .unset, .unset, .unset, .unset, .unset, .unset, .unset] [])) (fun _ k => st42 _ k) ?_
  refine own_go (U' := T42.setTop (mkF m 72 #[.val (.int p0), .val (.int p1), .val (.int p2), .val (.int y11), .val (.int y15), .val (.int y19), .val (.ref b28), .unset, .unset, .unset, .unset, .unset, .unset, .unset] [(.ref b28)])) (fun _ k => XS.aload X42.here hx rfl (hb hby at_70) rfl rfl k) ?_
  refine own_go (U' := T42.setTop (mkF m 74 #[.val (.int p0), .val (.int p1), .val (.int p2), .val (.int y11), .val (.int y15), .val (.int y19), .val (.ref b28), .unset, .unset, .unset, .unset, .unset, .unset, .unset] [(.int (7 : Int32)), (.ref b28)])) (fun _ k => XS.bipush X42.here hx rfl (hb hby at_72) k) ?_
  refine own_go (U' := T42.setTop (mkF m 76 #[.val (.int p0), .val (.int p1), .val (.int p2), .val (.int y11), .val (.int y15), .val (.int y19), .val (.ref b28), .unset, .unset, .unset, .unset, .unset, .unset, .unset] [(.int y19), (.int (7 : Int32)), (.ref b28)])) (fun _ k => XS.iload X42.here hx rfl (hb hby at_74) rfl k) ?_
  have V43 := w42
  obtain ⟨cl43, Ar43, q43, S43, Ng43, Hh43⟩ := V43
  have hj43 : ¬ (7 : Int32) < 0 ∧ (7 : Int32) < (8 : Int32) := ⟨by decide, by decide⟩
  obtain ⟨T44, h44, X44, e44, W44, st44⟩ := stB X42 hx hZ e42 Ar43 (j := (7 : Int32)) (inb_of S43 hj43) (g := (mkF m 76 #[.val (.int p0), .val (.int p1), .val (.int p2), .val (.int y11), .val (.int y15), .val (.int y19), .val (.ref b28), .unset, .unset, .unset, .unset, .unset, .unset, .unset] [(.int y19), (.int (7 : Int32)), (.ref b28)])) rfl rfl (hb hby at_76)
  obtain ⟨f76, hf76⟩ : ∃ F_ : Int32 → Int32, F_ = (fun i : Int32 => if i = (7 : Int32) then y19.toInt8.toInt32 else f69 i) := ⟨_, rfl⟩
  have w44 : own_Arf Z h44 b28 k28 .byte (8 : Int32) f76 := by rw [hf76]; exact own_Arf.set Ar43 q43 S43 Ng43 Hh43 hj43 W44
  have Z44 : n0 ≤ h44.size := Nat.le_trans Z42 (Keep.of_wr W44).1
  have K44 := Keep.wr K42 W44 (Or.inr sz_b28)
  have N44 := Fr.snoc X44 N42 g_b28
  refine own_go (U' := T44.setTop (mkF m 77 #[.val (.int p0), .val (.int p1), .val (.int p2), .val (.int y11), .val (.int y15), .val (.int y19), .val (.ref b28), .unset, .unset, .unset, .unset, .unset, .unset, .unset] [])) (fun _ k => st44 _ k) ?_
  refine own_go (U' := T44.setTop (mkF m 78 #[.val (.int p0), .val (.int p1), .val (.int p2), .val (.int y11), .val (.int y15), .val (.int y19), .val (.ref b28), .unset, .unset, .unset, .unset, .unset, .unset, .unset] [(.int y11)])) (fun _ k => XS.iloadN X44.here hx rfl (hb hby at_77) rfl k) ?_
  refine own_go (U' := T44.setTop (mkF m 81 #[.val (.int p0), .val (.int p1), .val (.int p2), .val (.int y11), .val (.int y15), .val (.int y19), .val (.ref b28), .unset, .unset, .unset, .unset, .unset, .unset, .unset] [(.int (2048 : Int32)), (.int y11)])) (fun _ k => XS.sipush X44.here hx rfl (hb hby at_78) k) ?_
  obtain ⟨z81, hz81⟩ : ∃ z : Int32, z = (if y11 < (2048 : Int32) then (2 : Int32) else (if y11 < (65536 : Int32) then (3 : Int32) else (4 : Int32))) := ⟨_, rfl⟩
  refine own_join (U' := T44.setTop (mkF m 99 #[.val (.int p0), .val (.int p1), .val (.int p2), .val (.int y11), .val (.int y15), .val (.int y19), .val (.ref b28), .unset, .unset, .unset, .unset, .unset, .unset, .unset] [(.int z81)])) (fun J81_45 => ?_) ?_
  · by_cases hc81_46 : y11 < (2048 : Int32)
    · refine own_go (U' := T44.setTop (mkF m 84 #[.val (.int p0), .val (.int p1), .val (.int p2), .val (.int y11), .val (.int y15), .val (.int y19), .val (.ref b28), .unset, .unset, .unset, .unset, .unset, .unset, .unset] [])) (fun _ k => XS.icmpNo X44.here hx rfl (hb hby at_81) rfl (tlt hc81_46).2.1 k) ?_
      refine own_go (U' := T44.setTop (mkF m 85 #[.val (.int p0), .val (.int p1), .val (.int p2), .val (.int y11), .val (.int y15), .val (.int y19), .val (.ref b28), .unset, .unset, .unset, .unset, .unset, .unset, .unset] [(.int (2 : Int32))])) (fun _ k => XS.iconst X44.here hx rfl (hb hby at_84) k) ?_
      refine own_go (U' := T44.setTop (mkF m 99 #[.val (.int p0), .val (.int p1), .val (.int p2), .val (.int y11), .val (.int y15), .val (.int y19), .val (.ref b28), .unset, .unset, .unset, .unset, .unset, .unset, .unset] [(.int (2 : Int32))])) (fun _ k => XS.goto X44.here hx rfl (pc0 := 85) (pc' := 99) rfl (hb hby at_85) (by decide) (by decide) k) ?_
      simp only [if_pos hc81_46] at hz81
      subst hz81
      exact J81_45
    · refine own_go (U' := T44.setTop (mkF m 88 #[.val (.int p0), .val (.int p1), .val (.int p2), .val (.int y11), .val (.int y15), .val (.int y19), .val (.ref b28), .unset, .unset, .unset, .unset, .unset, .unset, .unset] [])) (fun _ k => XS.icmpYes X44.here hx rfl (pc0 := 81) (pc' := 88) rfl (hb hby at_81) rfl (flt hc81_46).2.1 (by decide) (by decide) k) ?_
      refine own_go (U' := T44.setTop (mkF m 89 #[.val (.int p0), .val (.int p1), .val (.int p2), .val (.int y11), .val (.int y15), .val (.int y19), .val (.ref b28), .unset, .unset, .unset, .unset, .unset, .unset, .unset] [(.int y11)])) (fun _ k => XS.iloadN X44.here hx rfl (hb hby at_88) rfl k) ?_
      refine own_go (U' := T44.setTop (mkF m 91 #[.val (.int p0), .val (.int p1), .val (.int p2), .val (.int y11), .val (.int y15), .val (.int y19), .val (.ref b28), .unset, .unset, .unset, .unset, .unset, .unset, .unset] [(.int (65536 : Int32)), (.int y11)])) (fun _ k => X44.ldcInt hx hown (mvT hZ (hw _ (List.mem_of_getElem? (i := 14) rfl))) (g := (mkF m 89 #[.val (.int p0), .val (.int p1), .val (.int p2), .val (.int y11), .val (.int y15), .val (.int y19), .val (.ref b28), .unset, .unset, .unset, .unset, .unset, .unset, .unset] [(.int y11)])) rfl (hb hby at_89) _ k) ?_
      by_cases hc91_47 : y11 < (65536 : Int32)
      · refine own_go (U' := T44.setTop (mkF m 94 #[.val (.int p0), .val (.int p1), .val (.int p2), .val (.int y11), .val (.int y15), .val (.int y19), .val (.ref b28), .unset, .unset, .unset, .unset, .unset, .unset, .unset] [])) (fun _ k => XS.icmpNo X44.here hx rfl (hb hby at_91) rfl (tlt hc91_47).2.1 k) ?_
        refine own_go (U' := T44.setTop (mkF m 95 #[.val (.int p0), .val (.int p1), .val (.int p2), .val (.int y11), .val (.int y15), .val (.int y19), .val (.ref b28), .unset, .unset, .unset, .unset, .unset, .unset, .unset] [(.int (3 : Int32))])) (fun _ k => XS.iconst X44.here hx rfl (hb hby at_94) k) ?_
        refine own_go (U' := T44.setTop (mkF m 99 #[.val (.int p0), .val (.int p1), .val (.int p2), .val (.int y11), .val (.int y15), .val (.int y19), .val (.ref b28), .unset, .unset, .unset, .unset, .unset, .unset, .unset] [(.int (3 : Int32))])) (fun _ k => XS.goto X44.here hx rfl (pc0 := 95) (pc' := 99) rfl (hb hby at_95) (by decide) (by decide) k) ?_
        simp only [if_neg hc81_46, if_pos hc91_47] at hz81
        subst hz81
        exact J81_45
      · refine own_go (U' := T44.setTop (mkF m 98 #[.val (.int p0), .val (.int p1), .val (.int p2), .val (.int y11), .val (.int y15), .val (.int y19), .val (.ref b28), .unset, .unset, .unset, .unset, .unset, .unset, .unset] [])) (fun _ k => XS.icmpYes X44.here hx rfl (pc0 := 91) (pc' := 98) rfl (hb hby at_91) rfl (flt hc91_47).2.1 (by decide) (by decide) k) ?_
        refine own_go (U' := T44.setTop (mkF m 99 #[.val (.int p0), .val (.int p1), .val (.int p2), .val (.int y11), .val (.int y15), .val (.int y19), .val (.ref b28), .unset, .unset, .unset, .unset, .unset, .unset, .unset] [(.int (4 : Int32))])) (fun _ k => XS.iconst X44.here hx rfl (hb hby at_98) k) ?_
        simp only [if_neg hc81_46, if_neg hc91_47] at hz81
        subst hz81
        exact J81_45
  · refine own_go (U' := T44.setTop (mkF m 101 #[.val (.int p0), .val (.int p1), .val (.int p2), .val (.int y11), .val (.int y15), .val (.int y19), .val (.ref b28), .val (.int z81), .unset, .unset, .unset, .unset, .unset, .unset] [])) (fun _ k => XS.istore X44.here hx rfl (hb hby at_99) rfl (l' := #[.val (.int p0), .val (.int p1), .val (.int p2), .val (.int y11), .val (.int y15), .val (.int y19), .val (.ref b28), .val (.int z81), .unset, .unset, .unset, .unset, .unset, .unset]) rfl k) ?_
    refine own_go (U' := T44.setTop (mkF m 102 #[.val (.int p0), .val (.int p1), .val (.int p2), .val (.int y11), .val (.int y15), .val (.int y19), .val (.ref b28), .val (.int z81), .unset, .unset, .unset, .unset, .unset, .unset] [(.int y11)])) (fun _ k => XS.iloadN X44.here hx rfl (hb hby at_101) rfl k) ?_
    refine own_go (U' := T44.setTop (mkF m 104 #[.val (.int p0), .val (.int p1), .val (.int p2), .val (.int y11), .val (.int y15), .val (.int y19), .val (.ref b28), .val (.int z81), .unset, .unset, .unset, .unset, .unset, .unset] [(.ref b28), (.int y11)])) (fun _ k => XS.aload X44.here hx rfl (hb hby at_102) rfl rfl k) ?_
    obtain ⟨hcp0, hcp1⟩ := own_cp hy11
    obtain ⟨ht0, ht4⟩ := own_t hy15
    have hfill := own_filled hf32 hf38 hf44 hf50 hf56 hf62 hf69 hf76
    rw [own_fill8 hy19] at hfill
    refine own_go (U' := T44.setTop (mkF m 106 #[.val (.int p0), .val (.int p1), .val (.int p2), .val (.int y11), .val (.int y15), .val (.int y19), .val (.ref b28), .val (.int z81), .unset, .unset, .unset, .unset, .unset, .unset] [(.int y15), (.ref b28), (.int y11)])) (fun _ k => XS.iload X44.here hx rfl (hb hby at_104) rfl k) ?_
    obtain ⟨_, _, ⟨T48, L48, k48, n48⟩, -, X48, ⟨Lc48, hQ48, l48, y48, z48⟩, st48⟩ := Jvm.LawKit.callS X44 hx (y := (⟨"com/example/eunomia/eunomia/Utf8Output", "encode", "(I[BI)I"⟩ : MethodName)) hown (mvT hZ (hw _ (List.mem_of_getElem? (i := 3) rfl))) (mvT hZ (hw _ (List.mem_of_getElem? (i := 4) rfl))) (mvT hZ (hw _ (List.mem_of_getElem? (i := 5) rfl))) (mvT hZ (hw _ (List.mem_of_getElem? (i := 6) rfl))) (by decide) (backOf (W := 0) (rm1 l Z aw hw [] y11 b28 y15 k28 f76 h44 n0 Z44 w44 (by first | assumption | decide) (by first | assumption | decide) (by first | assumption | decide)) hZ (hw _ (List.mem_of_getElem? (i := 6) rfl)) (hw _ (List.mem_of_getElem? (i := 5) rfl)) (by decide) (by decide)) (g := (mkF m 106 #[.val (.int p0), .val (.int p1), .val (.int p2), .val (.int y11), .val (.int y15), .val (.int y19), .val (.ref b28), .val (.int z81), .unset, .unset, .unset, .unset, .unset, .unset] [(.int y15), (.ref b28), (.int y11)])) rfl (by rw [hml]; rfl) (argsL := [(.int y11), (.ref b28), (.int y15)]) (rest := []) (lenOf own_pd0 rfl) rfl (by show 2 * 0 + _ ≤ _; exact Nat.le_of_eq rfl) (hb hby at_106) (fun _ _ => ⟨rfl, e44, (by decide : 1 + 0 ≤ _), (by decide : 8 + 0 ≤ _)⟩)
    dsimp only [Pt.U, Pt.locs, Pt.cells, Pt.slots] at X48 l48 y48 z48 st48 hQ48
    subst l48 y48 z48
    obtain ⟨rfl, N48q, K48q, xV48⟩ := hQ48
    have N48 := Fr.app N44 N48q
    have Z48 : n0 ≤ T48.heap.size := Nat.le_trans Z44 K48q.1
    have K48 := Keep.trans K44 K48q (allS (Or.inr sz_b28) all0)
    refine own_go (U' := T48.setTop (mkF m 109 #[.val (.int p0), .val (.int p1), .val (.int p2), .val (.int y11), .val (.int y15), .val (.int y19), .val (.ref b28), .val (.int z81), .unset, .unset, .unset, .unset, .unset, .unset] [(.int (own_r y11 y15))])) (fun _ k => st48 _ k) ?_
    generalize hy109 : (own_r y11 y15) = y109
    refine own_go (U' := T48.setTop (mkF m 111 #[.val (.int p0), .val (.int p1), .val (.int p2), .val (.int y11), .val (.int y15), .val (.int y19), .val (.ref b28), .val (.int z81), .val (.int y109), .unset, .unset, .unset, .unset, .unset] [])) (fun _ k => XS.istore X48.here hx rfl (hb hby at_109) rfl (l' := #[.val (.int p0), .val (.int p1), .val (.int p2), .val (.int y11), .val (.int y15), .val (.int y19), .val (.ref b28), .val (.int z81), .val (.int y109), .unset, .unset, .unset, .unset, .unset]) rfl k) ?_
    refine own_go (U' := T48.setTop (mkF m 113 #[.val (.int p0), .val (.int p1), .val (.int p2), .val (.int y11), .val (.int y15), .val (.int y19), .val (.ref b28), .val (.int z81), .val (.int y109), .unset, .unset, .unset, .unset, .unset] [(.int y109)])) (fun _ k => XS.iload X48.here hx rfl (hb hby at_111) rfl k) ?_
    refine own_go (U' := T48.setTop (mkF m 115 #[.val (.int p0), .val (.int p1), .val (.int p2), .val (.int y11), .val (.int y15), .val (.int y19), .val (.ref b28), .val (.int z81), .val (.int y109), .unset, .unset, .unset, .unset, .unset] [(.int y15), (.int y109)])) (fun _ k => XS.iload X48.here hx rfl (hb hby at_113) rfl k) ?_
    refine own_go (U' := T48.setTop (mkF m 117 #[.val (.int p0), .val (.int p1), .val (.int p2), .val (.int y11), .val (.int y15), .val (.int y19), .val (.ref b28), .val (.int z81), .val (.int y109), .unset, .unset, .unset, .unset, .unset] [(.int z81), (.int y15), (.int y109)])) (fun _ k => XS.iload X48.here hx rfl (hb hby at_115) rfl k) ?_
    refine own_go (U' := T48.setTop (mkF m 118 #[.val (.int p0), .val (.int p1), .val (.int p2), .val (.int y11), .val (.int y15), .val (.int y19), .val (.ref b28), .val (.int z81), .val (.int y109), .unset, .unset, .unset, .unset, .unset] [(.int (y15 + z81)), (.int y109)])) (fun _ k => XS.iadd X48.here hx rfl (hb hby at_117) rfl k) ?_
    have hc118_49 : y109 = (y15 + z81) := own_end hz81 hy109
    refine own_go (U' := T48.setTop (mkF m 123 #[.val (.int p0), .val (.int p1), .val (.int p2), .val (.int y11), .val (.int y15), .val (.int y19), .val (.ref b28), .val (.int z81), .val (.int y109), .unset, .unset, .unset, .unset, .unset] [])) (fun _ k => XS.icmpYes X48.here hx rfl (pc0 := 118) (pc' := 123) rfl (hb hby at_118) rfl (teq hc118_49).1 (by decide) (by decide) k) ?_
    refine own_go (U' := T48.setTop (mkF m 125 #[.val (.int p0), .val (.int p1), .val (.int p2), .val (.int y11), .val (.int y15), .val (.int y19), .val (.ref b28), .val (.int z81), .val (.int y109), .unset, .unset, .unset, .unset, .unset] [(.ref b28)])) (fun _ k => XS.aload X48.here hx rfl (hb hby at_123) rfl rfl k) ?_
    refine own_go (U' := T48.setTop (mkF m 126 #[.val (.int p0), .val (.int p1), .val (.int p2), .val (.int y11), .val (.int y15), .val (.int y19), .val (.ref b28), .val (.int z81), .val (.int y109), .unset, .unset, .unset, .unset, .unset] [(.int (0 : Int32)), (.ref b28)])) (fun _ k => XS.iconst X48.here hx rfl (hb hby at_125) k) ?_
    refine own_go (U' := T48.setTop (mkF m 128 #[.val (.int p0), .val (.int p1), .val (.int p2), .val (.int y11), .val (.int y15), .val (.int y19), .val (.ref b28), .val (.int z81), .val (.int y109), .unset, .unset, .unset, .unset, .unset] [(.int y15), (.int (0 : Int32)), (.ref b28)])) (fun _ k => XS.iload X48.here hx rfl (hb hby at_126) rfl k) ?_
    refine own_go (U' := T48.setTop (mkF m 130 #[.val (.int p0), .val (.int p1), .val (.int p2), .val (.int y11), .val (.int y15), .val (.int y19), .val (.ref b28), .val (.int z81), .val (.int y109), .unset, .unset, .unset, .unset, .unset] [(.int z81), (.int y15), (.int (0 : Int32)), (.ref b28)])) (fun _ k => XS.iload X48.here hx rfl (hb hby at_128) rfl k) ?_
    refine own_go (U' := T48.setTop (mkF m 132 #[.val (.int p0), .val (.int p1), .val (.int p2), .val (.int y11), .val (.int y15), .val (.int y19), .val (.ref b28), .val (.int z81), .val (.int y109), .unset, .unset, .unset, .unset, .unset] [(.int y19), (.int z81), (.int y15), (.int (0 : Int32)), (.ref b28)])) (fun _ k => XS.iload X48.here hx rfl (hb hby at_130) rfl k) ?_
    obtain ⟨_, _, ⟨T50, L50, k50, n50⟩, -, X50, ⟨Lc50, hQ50, l50, y50, z50⟩, st50⟩ := Jvm.LawKit.callS X48 hx (y := (⟨"com/example/eunomia/eunomia/Utf8OutputEncodePinLaw", "untouched", "([BIIIB)Z"⟩ : MethodName)) hown (mvT hZ (hw _ (List.mem_of_getElem? (i := 7) rfl))) (mvT hZ (hw _ (List.mem_of_getElem? (i := 8) rfl))) (mvT hZ (hw _ (List.mem_of_getElem? (i := 9) rfl))) (mvT hZ (hw _ (List.mem_of_getElem? (i := 10) rfl))) (by decide) (backOf (W := 0) (rm2 l Z aw hw [] b28 (0 : Int32) y15 z81 y19 k28 (own_enc y11 y15 f76) T48.heap n0 Z48 xV48 (by first | assumption | decide) (by first | assumption | decide)) hZ (hw _ (List.mem_of_getElem? (i := 10) rfl)) (hw _ (List.mem_of_getElem? (i := 9) rfl)) (by decide) (by decide)) (g := (mkF m 132 #[.val (.int p0), .val (.int p1), .val (.int p2), .val (.int y11), .val (.int y15), .val (.int y19), .val (.ref b28), .val (.int z81), .val (.int y109), .unset, .unset, .unset, .unset, .unset] [(.int y19), (.int z81), (.int y15), (.int (0 : Int32)), (.ref b28)])) rfl (by rw [hml]; rfl) (argsL := [(.ref b28), (.int (0 : Int32)), (.int y15), (.int z81), (.int y19)]) (rest := []) (lenOf own_pd1 rfl) rfl (by show 2 * 0 + _ ≤ _; exact Nat.le_of_eq rfl) (hb hby at_132) (fun _ _ => ⟨rfl, rfl, (by decide : 1 + 0 ≤ _), (by decide : 8 + 0 ≤ _)⟩)
    dsimp only [Pt.U, Pt.locs, Pt.cells, Pt.slots] at X50 l50 y50 z50 st50 hQ50
    subst l50 y50 z50
    obtain ⟨rfl, N50q, e50⟩ := hQ50
    have N50 := Fr.app N48 N50q
    refine own_go (U' := T50.setTop (mkF m 135 #[.val (.int p0), .val (.int p1), .val (.int p2), .val (.int y11), .val (.int y15), .val (.int y19), .val (.ref b28), .val (.int z81), .val (.int y109), .unset, .unset, .unset, .unset, .unset] [(.int (f_2 b28 (0 : Int32) y15 z81 y19 k28 (own_enc y11 y15 f76)))])) (fun _ k => st50 _ k) ?_
    have hc135_51 : ¬ ((f_2 b28 (0 : Int32) y15 z81 y19 k28 (own_enc y11 y15 f76)) = (0 : Int32)) := own_unt hz81 ht0 ht4 hfill (by decide) (by decide)
    refine own_go (U' := T50.setTop (mkF m 138 #[.val (.int p0), .val (.int p1), .val (.int p2), .val (.int y11), .val (.int y15), .val (.int y19), .val (.ref b28), .val (.int z81), .val (.int y109), .unset, .unset, .unset, .unset, .unset] [])) (fun _ k => XS.ifNo X50.here hx rfl (hb hby at_135) rfl ((if0 _ _).trans (feq hc135_51).1) k) ?_
    refine own_go (U' := T50.setTop (mkF m 140 #[.val (.int p0), .val (.int p1), .val (.int p2), .val (.int y11), .val (.int y15), .val (.int y19), .val (.ref b28), .val (.int z81), .val (.int y109), .unset, .unset, .unset, .unset, .unset] [(.ref b28)])) (fun _ k => XS.aload X50.here hx rfl (hb hby at_138) rfl rfl k) ?_
    refine own_go (U' := T50.setTop (mkF m 141 #[.val (.int p0), .val (.int p1), .val (.int p2), .val (.int y11), .val (.int y15), .val (.int y19), .val (.ref b28), .val (.int z81), .val (.int y109), .unset, .unset, .unset, .unset, .unset] [(.int (1 : Int32)), (.ref b28)])) (fun _ k => XS.iconst X50.here hx rfl (hb hby at_140) k) ?_
    refine own_go (U' := T50.setTop (mkF m 143 #[.val (.int p0), .val (.int p1), .val (.int p2), .val (.int y11), .val (.int y15), .val (.int y19), .val (.ref b28), .val (.int z81), .val (.int y109), .unset, .unset, .unset, .unset, .unset] [(.int y15), (.int (1 : Int32)), (.ref b28)])) (fun _ k => XS.iload X50.here hx rfl (hb hby at_141) rfl k) ?_
    refine own_go (U' := T50.setTop (mkF m 145 #[.val (.int p0), .val (.int p1), .val (.int p2), .val (.int y11), .val (.int y15), .val (.int y19), .val (.ref b28), .val (.int z81), .val (.int y109), .unset, .unset, .unset, .unset, .unset] [(.int z81), (.int y15), (.int (1 : Int32)), (.ref b28)])) (fun _ k => XS.iload X50.here hx rfl (hb hby at_143) rfl k) ?_
    refine own_go (U' := T50.setTop (mkF m 147 #[.val (.int p0), .val (.int p1), .val (.int p2), .val (.int y11), .val (.int y15), .val (.int y19), .val (.ref b28), .val (.int z81), .val (.int y109), .unset, .unset, .unset, .unset, .unset] [(.int y19), (.int z81), (.int y15), (.int (1 : Int32)), (.ref b28)])) (fun _ k => XS.iload X50.here hx rfl (hb hby at_145) rfl k) ?_
    obtain ⟨_, _, ⟨T52, L52, k52, n52⟩, -, X52, ⟨Lc52, hQ52, l52, y52, z52⟩, st52⟩ := Jvm.LawKit.callS X50 hx (y := (⟨"com/example/eunomia/eunomia/Utf8OutputEncodePinLaw", "untouched", "([BIIIB)Z"⟩ : MethodName)) hown (mvT hZ (hw _ (List.mem_of_getElem? (i := 7) rfl))) (mvT hZ (hw _ (List.mem_of_getElem? (i := 8) rfl))) (mvT hZ (hw _ (List.mem_of_getElem? (i := 9) rfl))) (mvT hZ (hw _ (List.mem_of_getElem? (i := 10) rfl))) (by decide) (backOf (W := 0) (rm2 l Z aw hw [] b28 (1 : Int32) y15 z81 y19 k28 (own_enc y11 y15 f76) T48.heap n0 Z48 xV48 (by first | assumption | decide) (by first | assumption | decide)) hZ (hw _ (List.mem_of_getElem? (i := 10) rfl)) (hw _ (List.mem_of_getElem? (i := 9) rfl)) (by decide) (by decide)) (g := (mkF m 147 #[.val (.int p0), .val (.int p1), .val (.int p2), .val (.int y11), .val (.int y15), .val (.int y19), .val (.ref b28), .val (.int z81), .val (.int y109), .unset, .unset, .unset, .unset, .unset] [(.int y19), (.int z81), (.int y15), (.int (1 : Int32)), (.ref b28)])) rfl (by rw [hml]; rfl) (argsL := [(.ref b28), (.int (1 : Int32)), (.int y15), (.int z81), (.int y19)]) (rest := []) (lenOf own_pd1 rfl) rfl (by show 2 * 0 + _ ≤ _; exact Nat.le_of_eq rfl) (hb hby at_147) (fun _ _ => ⟨rfl, e50, (by decide : 1 + 0 ≤ _), (by decide : 8 + 0 ≤ _)⟩)
    dsimp only [Pt.U, Pt.locs, Pt.cells, Pt.slots] at X52 l52 y52 z52 st52 hQ52
    subst l52 y52 z52
    obtain ⟨rfl, N52q, e52⟩ := hQ52
    have N52 := Fr.app N50 N52q
    refine own_go (U' := T52.setTop (mkF m 150 #[.val (.int p0), .val (.int p1), .val (.int p2), .val (.int y11), .val (.int y15), .val (.int y19), .val (.ref b28), .val (.int z81), .val (.int y109), .unset, .unset, .unset, .unset, .unset] [(.int (f_2 b28 (1 : Int32) y15 z81 y19 k28 (own_enc y11 y15 f76)))])) (fun _ k => st52 _ k) ?_
    have hc150_53 : ¬ ((f_2 b28 (1 : Int32) y15 z81 y19 k28 (own_enc y11 y15 f76)) = (0 : Int32)) := own_unt hz81 ht0 ht4 hfill (by decide) (by decide)
    refine own_go (U' := T52.setTop (mkF m 153 #[.val (.int p0), .val (.int p1), .val (.int p2), .val (.int y11), .val (.int y15), .val (.int y19), .val (.ref b28), .val (.int z81), .val (.int y109), .unset, .unset, .unset, .unset, .unset] [])) (fun _ k => XS.ifNo X52.here hx rfl (hb hby at_150) rfl ((if0 _ _).trans (feq hc150_53).1) k) ?_
    refine own_go (U' := T52.setTop (mkF m 155 #[.val (.int p0), .val (.int p1), .val (.int p2), .val (.int y11), .val (.int y15), .val (.int y19), .val (.ref b28), .val (.int z81), .val (.int y109), .unset, .unset, .unset, .unset, .unset] [(.ref b28)])) (fun _ k => XS.aload X52.here hx rfl (hb hby at_153) rfl rfl k) ?_
    refine own_go (U' := T52.setTop (mkF m 156 #[.val (.int p0), .val (.int p1), .val (.int p2), .val (.int y11), .val (.int y15), .val (.int y19), .val (.ref b28), .val (.int z81), .val (.int y109), .unset, .unset, .unset, .unset, .unset] [(.int (2 : Int32)), (.ref b28)])) (fun _ k => XS.iconst X52.here hx rfl (hb hby at_155) k) ?_
    refine own_go (U' := T52.setTop (mkF m 158 #[.val (.int p0), .val (.int p1), .val (.int p2), .val (.int y11), .val (.int y15), .val (.int y19), .val (.ref b28), .val (.int z81), .val (.int y109), .unset, .unset, .unset, .unset, .unset] [(.int y15), (.int (2 : Int32)), (.ref b28)])) (fun _ k => XS.iload X52.here hx rfl (hb hby at_156) rfl k) ?_
    refine own_go (U' := T52.setTop (mkF m 160 #[.val (.int p0), .val (.int p1), .val (.int p2), .val (.int y11), .val (.int y15), .val (.int y19), .val (.ref b28), .val (.int z81), .val (.int y109), .unset, .unset, .unset, .unset, .unset] [(.int z81), (.int y15), (.int (2 : Int32)), (.ref b28)])) (fun _ k => XS.iload X52.here hx rfl (hb hby at_158) rfl k) ?_
    refine own_go (U' := T52.setTop (mkF m 162 #[.val (.int p0), .val (.int p1), .val (.int p2), .val (.int y11), .val (.int y15), .val (.int y19), .val (.ref b28), .val (.int z81), .val (.int y109), .unset, .unset, .unset, .unset, .unset] [(.int y19), (.int z81), (.int y15), (.int (2 : Int32)), (.ref b28)])) (fun _ k => XS.iload X52.here hx rfl (hb hby at_160) rfl k) ?_
    obtain ⟨_, _, ⟨T54, L54, k54, n54⟩, -, X54, ⟨Lc54, hQ54, l54, y54, z54⟩, st54⟩ := Jvm.LawKit.callS X52 hx (y := (⟨"com/example/eunomia/eunomia/Utf8OutputEncodePinLaw", "untouched", "([BIIIB)Z"⟩ : MethodName)) hown (mvT hZ (hw _ (List.mem_of_getElem? (i := 7) rfl))) (mvT hZ (hw _ (List.mem_of_getElem? (i := 8) rfl))) (mvT hZ (hw _ (List.mem_of_getElem? (i := 9) rfl))) (mvT hZ (hw _ (List.mem_of_getElem? (i := 10) rfl))) (by decide) (backOf (W := 0) (rm2 l Z aw hw [] b28 (2 : Int32) y15 z81 y19 k28 (own_enc y11 y15 f76) T48.heap n0 Z48 xV48 (by first | assumption | decide) (by first | assumption | decide)) hZ (hw _ (List.mem_of_getElem? (i := 10) rfl)) (hw _ (List.mem_of_getElem? (i := 9) rfl)) (by decide) (by decide)) (g := (mkF m 162 #[.val (.int p0), .val (.int p1), .val (.int p2), .val (.int y11), .val (.int y15), .val (.int y19), .val (.ref b28), .val (.int z81), .val (.int y109), .unset, .unset, .unset, .unset, .unset] [(.int y19), (.int z81), (.int y15), (.int (2 : Int32)), (.ref b28)])) rfl (by rw [hml]; rfl) (argsL := [(.ref b28), (.int (2 : Int32)), (.int y15), (.int z81), (.int y19)]) (rest := []) (lenOf own_pd1 rfl) rfl (by show 2 * 0 + _ ≤ _; exact Nat.le_of_eq rfl) (hb hby at_162) (fun _ _ => ⟨rfl, e52, (by decide : 1 + 0 ≤ _), (by decide : 8 + 0 ≤ _)⟩)
    dsimp only [Pt.U, Pt.locs, Pt.cells, Pt.slots] at X54 l54 y54 z54 st54 hQ54
    subst l54 y54 z54
    obtain ⟨rfl, N54q, e54⟩ := hQ54
    have N54 := Fr.app N52 N54q
    refine own_go (U' := T54.setTop (mkF m 165 #[.val (.int p0), .val (.int p1), .val (.int p2), .val (.int y11), .val (.int y15), .val (.int y19), .val (.ref b28), .val (.int z81), .val (.int y109), .unset, .unset, .unset, .unset, .unset] [(.int (f_2 b28 (2 : Int32) y15 z81 y19 k28 (own_enc y11 y15 f76)))])) (fun _ k => st54 _ k) ?_
    have hc165_55 : ¬ ((f_2 b28 (2 : Int32) y15 z81 y19 k28 (own_enc y11 y15 f76)) = (0 : Int32)) := own_unt hz81 ht0 ht4 hfill (by decide) (by decide)
    refine own_go (U' := T54.setTop (mkF m 168 #[.val (.int p0), .val (.int p1), .val (.int p2), .val (.int y11), .val (.int y15), .val (.int y19), .val (.ref b28), .val (.int z81), .val (.int y109), .unset, .unset, .unset, .unset, .unset] [])) (fun _ k => XS.ifNo X54.here hx rfl (hb hby at_165) rfl ((if0 _ _).trans (feq hc165_55).1) k) ?_
    refine own_go (U' := T54.setTop (mkF m 170 #[.val (.int p0), .val (.int p1), .val (.int p2), .val (.int y11), .val (.int y15), .val (.int y19), .val (.ref b28), .val (.int z81), .val (.int y109), .unset, .unset, .unset, .unset, .unset] [(.ref b28)])) (fun _ k => XS.aload X54.here hx rfl (hb hby at_168) rfl rfl k) ?_
    refine own_go (U' := T54.setTop (mkF m 171 #[.val (.int p0), .val (.int p1), .val (.int p2), .val (.int y11), .val (.int y15), .val (.int y19), .val (.ref b28), .val (.int z81), .val (.int y109), .unset, .unset, .unset, .unset, .unset] [(.int (3 : Int32)), (.ref b28)])) (fun _ k => XS.iconst X54.here hx rfl (hb hby at_170) k) ?_
    refine own_go (U' := T54.setTop (mkF m 173 #[.val (.int p0), .val (.int p1), .val (.int p2), .val (.int y11), .val (.int y15), .val (.int y19), .val (.ref b28), .val (.int z81), .val (.int y109), .unset, .unset, .unset, .unset, .unset] [(.int y15), (.int (3 : Int32)), (.ref b28)])) (fun _ k => XS.iload X54.here hx rfl (hb hby at_171) rfl k) ?_
    refine own_go (U' := T54.setTop (mkF m 175 #[.val (.int p0), .val (.int p1), .val (.int p2), .val (.int y11), .val (.int y15), .val (.int y19), .val (.ref b28), .val (.int z81), .val (.int y109), .unset, .unset, .unset, .unset, .unset] [(.int z81), (.int y15), (.int (3 : Int32)), (.ref b28)])) (fun _ k => XS.iload X54.here hx rfl (hb hby at_173) rfl k) ?_
    refine own_go (U' := T54.setTop (mkF m 177 #[.val (.int p0), .val (.int p1), .val (.int p2), .val (.int y11), .val (.int y15), .val (.int y19), .val (.ref b28), .val (.int z81), .val (.int y109), .unset, .unset, .unset, .unset, .unset] [(.int y19), (.int z81), (.int y15), (.int (3 : Int32)), (.ref b28)])) (fun _ k => XS.iload X54.here hx rfl (hb hby at_175) rfl k) ?_
    obtain ⟨_, _, ⟨T56, L56, k56, n56⟩, -, X56, ⟨Lc56, hQ56, l56, y56, z56⟩, st56⟩ := Jvm.LawKit.callS X54 hx (y := (⟨"com/example/eunomia/eunomia/Utf8OutputEncodePinLaw", "untouched", "([BIIIB)Z"⟩ : MethodName)) hown (mvT hZ (hw _ (List.mem_of_getElem? (i := 7) rfl))) (mvT hZ (hw _ (List.mem_of_getElem? (i := 8) rfl))) (mvT hZ (hw _ (List.mem_of_getElem? (i := 9) rfl))) (mvT hZ (hw _ (List.mem_of_getElem? (i := 10) rfl))) (by decide) (backOf (W := 0) (rm2 l Z aw hw [] b28 (3 : Int32) y15 z81 y19 k28 (own_enc y11 y15 f76) T48.heap n0 Z48 xV48 (by first | assumption | decide) (by first | assumption | decide)) hZ (hw _ (List.mem_of_getElem? (i := 10) rfl)) (hw _ (List.mem_of_getElem? (i := 9) rfl)) (by decide) (by decide)) (g := (mkF m 177 #[.val (.int p0), .val (.int p1), .val (.int p2), .val (.int y11), .val (.int y15), .val (.int y19), .val (.ref b28), .val (.int z81), .val (.int y109), .unset, .unset, .unset, .unset, .unset] [(.int y19), (.int z81), (.int y15), (.int (3 : Int32)), (.ref b28)])) rfl (by rw [hml]; rfl) (argsL := [(.ref b28), (.int (3 : Int32)), (.int y15), (.int z81), (.int y19)]) (rest := []) (lenOf own_pd1 rfl) rfl (by show 2 * 0 + _ ≤ _; exact Nat.le_of_eq rfl) (hb hby at_177) (fun _ _ => ⟨rfl, e54, (by decide : 1 + 0 ≤ _), (by decide : 8 + 0 ≤ _)⟩)
    dsimp only [Pt.U, Pt.locs, Pt.cells, Pt.slots] at X56 l56 y56 z56 st56 hQ56
    subst l56 y56 z56
    obtain ⟨rfl, N56q, e56⟩ := hQ56
    have N56 := Fr.app N54 N56q
    refine own_go (U' := T56.setTop (mkF m 180 #[.val (.int p0), .val (.int p1), .val (.int p2), .val (.int y11), .val (.int y15), .val (.int y19), .val (.ref b28), .val (.int z81), .val (.int y109), .unset, .unset, .unset, .unset, .unset] [(.int (f_2 b28 (3 : Int32) y15 z81 y19 k28 (own_enc y11 y15 f76)))])) (fun _ k => st56 _ k) ?_
    have hc180_57 : ¬ ((f_2 b28 (3 : Int32) y15 z81 y19 k28 (own_enc y11 y15 f76)) = (0 : Int32)) := own_unt hz81 ht0 ht4 hfill (by decide) (by decide)
    refine own_go (U' := T56.setTop (mkF m 183 #[.val (.int p0), .val (.int p1), .val (.int p2), .val (.int y11), .val (.int y15), .val (.int y19), .val (.ref b28), .val (.int z81), .val (.int y109), .unset, .unset, .unset, .unset, .unset] [])) (fun _ k => XS.ifNo X56.here hx rfl (hb hby at_180) rfl ((if0 _ _).trans (feq hc180_57).1) k) ?_
    refine own_go (U' := T56.setTop (mkF m 185 #[.val (.int p0), .val (.int p1), .val (.int p2), .val (.int y11), .val (.int y15), .val (.int y19), .val (.ref b28), .val (.int z81), .val (.int y109), .unset, .unset, .unset, .unset, .unset] [(.ref b28)])) (fun _ k => XS.aload X56.here hx rfl (hb hby at_183) rfl rfl k) ?_
    refine own_go (U' := T56.setTop (mkF m 186 #[.val (.int p0), .val (.int p1), .val (.int p2), .val (.int y11), .val (.int y15), .val (.int y19), .val (.ref b28), .val (.int z81), .val (.int y109), .unset, .unset, .unset, .unset, .unset] [(.int (4 : Int32)), (.ref b28)])) (fun _ k => XS.iconst X56.here hx rfl (hb hby at_185) k) ?_
    refine own_go (U' := T56.setTop (mkF m 188 #[.val (.int p0), .val (.int p1), .val (.int p2), .val (.int y11), .val (.int y15), .val (.int y19), .val (.ref b28), .val (.int z81), .val (.int y109), .unset, .unset, .unset, .unset, .unset] [(.int y15), (.int (4 : Int32)), (.ref b28)])) (fun _ k => XS.iload X56.here hx rfl (hb hby at_186) rfl k) ?_
    refine own_go (U' := T56.setTop (mkF m 190 #[.val (.int p0), .val (.int p1), .val (.int p2), .val (.int y11), .val (.int y15), .val (.int y19), .val (.ref b28), .val (.int z81), .val (.int y109), .unset, .unset, .unset, .unset, .unset] [(.int z81), (.int y15), (.int (4 : Int32)), (.ref b28)])) (fun _ k => XS.iload X56.here hx rfl (hb hby at_188) rfl k) ?_
    refine own_go (U' := T56.setTop (mkF m 192 #[.val (.int p0), .val (.int p1), .val (.int p2), .val (.int y11), .val (.int y15), .val (.int y19), .val (.ref b28), .val (.int z81), .val (.int y109), .unset, .unset, .unset, .unset, .unset] [(.int y19), (.int z81), (.int y15), (.int (4 : Int32)), (.ref b28)])) (fun _ k => XS.iload X56.here hx rfl (hb hby at_190) rfl k) ?_
    obtain ⟨_, _, ⟨T58, L58, k58, n58⟩, -, X58, ⟨Lc58, hQ58, l58, y58, z58⟩, st58⟩ := Jvm.LawKit.callS X56 hx (y := (⟨"com/example/eunomia/eunomia/Utf8OutputEncodePinLaw", "untouched", "([BIIIB)Z"⟩ : MethodName)) hown (mvT hZ (hw _ (List.mem_of_getElem? (i := 7) rfl))) (mvT hZ (hw _ (List.mem_of_getElem? (i := 8) rfl))) (mvT hZ (hw _ (List.mem_of_getElem? (i := 9) rfl))) (mvT hZ (hw _ (List.mem_of_getElem? (i := 10) rfl))) (by decide) (backOf (W := 0) (rm2 l Z aw hw [] b28 (4 : Int32) y15 z81 y19 k28 (own_enc y11 y15 f76) T48.heap n0 Z48 xV48 (by first | assumption | decide) (by first | assumption | decide)) hZ (hw _ (List.mem_of_getElem? (i := 10) rfl)) (hw _ (List.mem_of_getElem? (i := 9) rfl)) (by decide) (by decide)) (g := (mkF m 192 #[.val (.int p0), .val (.int p1), .val (.int p2), .val (.int y11), .val (.int y15), .val (.int y19), .val (.ref b28), .val (.int z81), .val (.int y109), .unset, .unset, .unset, .unset, .unset] [(.int y19), (.int z81), (.int y15), (.int (4 : Int32)), (.ref b28)])) rfl (by rw [hml]; rfl) (argsL := [(.ref b28), (.int (4 : Int32)), (.int y15), (.int z81), (.int y19)]) (rest := []) (lenOf own_pd1 rfl) rfl (by show 2 * 0 + _ ≤ _; exact Nat.le_of_eq rfl) (hb hby at_192) (fun _ _ => ⟨rfl, e56, (by decide : 1 + 0 ≤ _), (by decide : 8 + 0 ≤ _)⟩)
    dsimp only [Pt.U, Pt.locs, Pt.cells, Pt.slots] at X58 l58 y58 z58 st58 hQ58
    subst l58 y58 z58
    obtain ⟨rfl, N58q, e58⟩ := hQ58
    have N58 := Fr.app N56 N58q
    refine own_go (U' := T58.setTop (mkF m 195 #[.val (.int p0), .val (.int p1), .val (.int p2), .val (.int y11), .val (.int y15), .val (.int y19), .val (.ref b28), .val (.int z81), .val (.int y109), .unset, .unset, .unset, .unset, .unset] [(.int (f_2 b28 (4 : Int32) y15 z81 y19 k28 (own_enc y11 y15 f76)))])) (fun _ k => st58 _ k) ?_
    have hc195_59 : ¬ ((f_2 b28 (4 : Int32) y15 z81 y19 k28 (own_enc y11 y15 f76)) = (0 : Int32)) := own_unt hz81 ht0 ht4 hfill (by decide) (by decide)
    refine own_go (U' := T58.setTop (mkF m 198 #[.val (.int p0), .val (.int p1), .val (.int p2), .val (.int y11), .val (.int y15), .val (.int y19), .val (.ref b28), .val (.int z81), .val (.int y109), .unset, .unset, .unset, .unset, .unset] [])) (fun _ k => XS.ifNo X58.here hx rfl (hb hby at_195) rfl ((if0 _ _).trans (feq hc195_59).1) k) ?_
    refine own_go (U' := T58.setTop (mkF m 200 #[.val (.int p0), .val (.int p1), .val (.int p2), .val (.int y11), .val (.int y15), .val (.int y19), .val (.ref b28), .val (.int z81), .val (.int y109), .unset, .unset, .unset, .unset, .unset] [(.ref b28)])) (fun _ k => XS.aload X58.here hx rfl (hb hby at_198) rfl rfl k) ?_
    refine own_go (U' := T58.setTop (mkF m 201 #[.val (.int p0), .val (.int p1), .val (.int p2), .val (.int y11), .val (.int y15), .val (.int y19), .val (.ref b28), .val (.int z81), .val (.int y109), .unset, .unset, .unset, .unset, .unset] [(.int (5 : Int32)), (.ref b28)])) (fun _ k => XS.iconst X58.here hx rfl (hb hby at_200) k) ?_
    refine own_go (U' := T58.setTop (mkF m 203 #[.val (.int p0), .val (.int p1), .val (.int p2), .val (.int y11), .val (.int y15), .val (.int y19), .val (.ref b28), .val (.int z81), .val (.int y109), .unset, .unset, .unset, .unset, .unset] [(.int y15), (.int (5 : Int32)), (.ref b28)])) (fun _ k => XS.iload X58.here hx rfl (hb hby at_201) rfl k) ?_
    refine own_go (U' := T58.setTop (mkF m 205 #[.val (.int p0), .val (.int p1), .val (.int p2), .val (.int y11), .val (.int y15), .val (.int y19), .val (.ref b28), .val (.int z81), .val (.int y109), .unset, .unset, .unset, .unset, .unset] [(.int z81), (.int y15), (.int (5 : Int32)), (.ref b28)])) (fun _ k => XS.iload X58.here hx rfl (hb hby at_203) rfl k) ?_
    refine own_go (U' := T58.setTop (mkF m 207 #[.val (.int p0), .val (.int p1), .val (.int p2), .val (.int y11), .val (.int y15), .val (.int y19), .val (.ref b28), .val (.int z81), .val (.int y109), .unset, .unset, .unset, .unset, .unset] [(.int y19), (.int z81), (.int y15), (.int (5 : Int32)), (.ref b28)])) (fun _ k => XS.iload X58.here hx rfl (hb hby at_205) rfl k) ?_
    obtain ⟨_, _, ⟨T60, L60, k60, n60⟩, -, X60, ⟨Lc60, hQ60, l60, y60, z60⟩, st60⟩ := Jvm.LawKit.callS X58 hx (y := (⟨"com/example/eunomia/eunomia/Utf8OutputEncodePinLaw", "untouched", "([BIIIB)Z"⟩ : MethodName)) hown (mvT hZ (hw _ (List.mem_of_getElem? (i := 7) rfl))) (mvT hZ (hw _ (List.mem_of_getElem? (i := 8) rfl))) (mvT hZ (hw _ (List.mem_of_getElem? (i := 9) rfl))) (mvT hZ (hw _ (List.mem_of_getElem? (i := 10) rfl))) (by decide) (backOf (W := 0) (rm2 l Z aw hw [] b28 (5 : Int32) y15 z81 y19 k28 (own_enc y11 y15 f76) T48.heap n0 Z48 xV48 (by first | assumption | decide) (by first | assumption | decide)) hZ (hw _ (List.mem_of_getElem? (i := 10) rfl)) (hw _ (List.mem_of_getElem? (i := 9) rfl)) (by decide) (by decide)) (g := (mkF m 207 #[.val (.int p0), .val (.int p1), .val (.int p2), .val (.int y11), .val (.int y15), .val (.int y19), .val (.ref b28), .val (.int z81), .val (.int y109), .unset, .unset, .unset, .unset, .unset] [(.int y19), (.int z81), (.int y15), (.int (5 : Int32)), (.ref b28)])) rfl (by rw [hml]; rfl) (argsL := [(.ref b28), (.int (5 : Int32)), (.int y15), (.int z81), (.int y19)]) (rest := []) (lenOf own_pd1 rfl) rfl (by show 2 * 0 + _ ≤ _; exact Nat.le_of_eq rfl) (hb hby at_207) (fun _ _ => ⟨rfl, e58, (by decide : 1 + 0 ≤ _), (by decide : 8 + 0 ≤ _)⟩)
    dsimp only [Pt.U, Pt.locs, Pt.cells, Pt.slots] at X60 l60 y60 z60 st60 hQ60
    subst l60 y60 z60
    obtain ⟨rfl, N60q, e60⟩ := hQ60
    have N60 := Fr.app N58 N60q
    refine own_go (U' := T60.setTop (mkF m 210 #[.val (.int p0), .val (.int p1), .val (.int p2), .val (.int y11), .val (.int y15), .val (.int y19), .val (.ref b28), .val (.int z81), .val (.int y109), .unset, .unset, .unset, .unset, .unset] [(.int (f_2 b28 (5 : Int32) y15 z81 y19 k28 (own_enc y11 y15 f76)))])) (fun _ k => st60 _ k) ?_
    have hc210_61 : ¬ ((f_2 b28 (5 : Int32) y15 z81 y19 k28 (own_enc y11 y15 f76)) = (0 : Int32)) := own_unt hz81 ht0 ht4 hfill (by decide) (by decide)
    refine own_go (U' := T60.setTop (mkF m 213 #[.val (.int p0), .val (.int p1), .val (.int p2), .val (.int y11), .val (.int y15), .val (.int y19), .val (.ref b28), .val (.int z81), .val (.int y109), .unset, .unset, .unset, .unset, .unset] [])) (fun _ k => XS.ifNo X60.here hx rfl (hb hby at_210) rfl ((if0 _ _).trans (feq hc210_61).1) k) ?_
    refine own_go (U' := T60.setTop (mkF m 215 #[.val (.int p0), .val (.int p1), .val (.int p2), .val (.int y11), .val (.int y15), .val (.int y19), .val (.ref b28), .val (.int z81), .val (.int y109), .unset, .unset, .unset, .unset, .unset] [(.ref b28)])) (fun _ k => XS.aload X60.here hx rfl (hb hby at_213) rfl rfl k) ?_
    refine own_go (U' := T60.setTop (mkF m 217 #[.val (.int p0), .val (.int p1), .val (.int p2), .val (.int y11), .val (.int y15), .val (.int y19), .val (.ref b28), .val (.int z81), .val (.int y109), .unset, .unset, .unset, .unset, .unset] [(.int (6 : Int32)), (.ref b28)])) (fun _ k => XS.bipush X60.here hx rfl (hb hby at_215) k) ?_
    refine own_go (U' := T60.setTop (mkF m 219 #[.val (.int p0), .val (.int p1), .val (.int p2), .val (.int y11), .val (.int y15), .val (.int y19), .val (.ref b28), .val (.int z81), .val (.int y109), .unset, .unset, .unset, .unset, .unset] [(.int y15), (.int (6 : Int32)), (.ref b28)])) (fun _ k => XS.iload X60.here hx rfl (hb hby at_217) rfl k) ?_
    refine own_go (U' := T60.setTop (mkF m 221 #[.val (.int p0), .val (.int p1), .val (.int p2), .val (.int y11), .val (.int y15), .val (.int y19), .val (.ref b28), .val (.int z81), .val (.int y109), .unset, .unset, .unset, .unset, .unset] [(.int z81), (.int y15), (.int (6 : Int32)), (.ref b28)])) (fun _ k => XS.iload X60.here hx rfl (hb hby at_219) rfl k) ?_
    refine own_go (U' := T60.setTop (mkF m 223 #[.val (.int p0), .val (.int p1), .val (.int p2), .val (.int y11), .val (.int y15), .val (.int y19), .val (.ref b28), .val (.int z81), .val (.int y109), .unset, .unset, .unset, .unset, .unset] [(.int y19), (.int z81), (.int y15), (.int (6 : Int32)), (.ref b28)])) (fun _ k => XS.iload X60.here hx rfl (hb hby at_221) rfl k) ?_
    obtain ⟨_, _, ⟨T62, L62, k62, n62⟩, -, X62, ⟨Lc62, hQ62, l62, y62, z62⟩, st62⟩ := Jvm.LawKit.callS X60 hx (y := (⟨"com/example/eunomia/eunomia/Utf8OutputEncodePinLaw", "untouched", "([BIIIB)Z"⟩ : MethodName)) hown (mvT hZ (hw _ (List.mem_of_getElem? (i := 7) rfl))) (mvT hZ (hw _ (List.mem_of_getElem? (i := 8) rfl))) (mvT hZ (hw _ (List.mem_of_getElem? (i := 9) rfl))) (mvT hZ (hw _ (List.mem_of_getElem? (i := 10) rfl))) (by decide) (backOf (W := 0) (rm2 l Z aw hw [] b28 (6 : Int32) y15 z81 y19 k28 (own_enc y11 y15 f76) T48.heap n0 Z48 xV48 (by first | assumption | decide) (by first | assumption | decide)) hZ (hw _ (List.mem_of_getElem? (i := 10) rfl)) (hw _ (List.mem_of_getElem? (i := 9) rfl)) (by decide) (by decide)) (g := (mkF m 223 #[.val (.int p0), .val (.int p1), .val (.int p2), .val (.int y11), .val (.int y15), .val (.int y19), .val (.ref b28), .val (.int z81), .val (.int y109), .unset, .unset, .unset, .unset, .unset] [(.int y19), (.int z81), (.int y15), (.int (6 : Int32)), (.ref b28)])) rfl (by rw [hml]; rfl) (argsL := [(.ref b28), (.int (6 : Int32)), (.int y15), (.int z81), (.int y19)]) (rest := []) (lenOf own_pd1 rfl) rfl (by show 2 * 0 + _ ≤ _; exact Nat.le_of_eq rfl) (hb hby at_223) (fun _ _ => ⟨rfl, e60, (by decide : 1 + 0 ≤ _), (by decide : 8 + 0 ≤ _)⟩)
    dsimp only [Pt.U, Pt.locs, Pt.cells, Pt.slots] at X62 l62 y62 z62 st62 hQ62
    subst l62 y62 z62
    obtain ⟨rfl, N62q, e62⟩ := hQ62
    have N62 := Fr.app N60 N62q
    refine own_go (U' := T62.setTop (mkF m 226 #[.val (.int p0), .val (.int p1), .val (.int p2), .val (.int y11), .val (.int y15), .val (.int y19), .val (.ref b28), .val (.int z81), .val (.int y109), .unset, .unset, .unset, .unset, .unset] [(.int (f_2 b28 (6 : Int32) y15 z81 y19 k28 (own_enc y11 y15 f76)))])) (fun _ k => st62 _ k) ?_
    have hc226_63 : ¬ ((f_2 b28 (6 : Int32) y15 z81 y19 k28 (own_enc y11 y15 f76)) = (0 : Int32)) := own_unt hz81 ht0 ht4 hfill (by decide) (by decide)
    refine own_go (U' := T62.setTop (mkF m 229 #[.val (.int p0), .val (.int p1), .val (.int p2), .val (.int y11), .val (.int y15), .val (.int y19), .val (.ref b28), .val (.int z81), .val (.int y109), .unset, .unset, .unset, .unset, .unset] [])) (fun _ k => XS.ifNo X62.here hx rfl (hb hby at_226) rfl ((if0 _ _).trans (feq hc226_63).1) k) ?_
    refine own_go (U' := T62.setTop (mkF m 231 #[.val (.int p0), .val (.int p1), .val (.int p2), .val (.int y11), .val (.int y15), .val (.int y19), .val (.ref b28), .val (.int z81), .val (.int y109), .unset, .unset, .unset, .unset, .unset] [(.ref b28)])) (fun _ k => XS.aload X62.here hx rfl (hb hby at_229) rfl rfl k) ?_
    refine own_go (U' := T62.setTop (mkF m 233 #[.val (.int p0), .val (.int p1), .val (.int p2), .val (.int y11), .val (.int y15), .val (.int y19), .val (.ref b28), .val (.int z81), .val (.int y109), .unset, .unset, .unset, .unset, .unset] [(.int (7 : Int32)), (.ref b28)])) (fun _ k => XS.bipush X62.here hx rfl (hb hby at_231) k) ?_
    refine own_go (U' := T62.setTop (mkF m 235 #[.val (.int p0), .val (.int p1), .val (.int p2), .val (.int y11), .val (.int y15), .val (.int y19), .val (.ref b28), .val (.int z81), .val (.int y109), .unset, .unset, .unset, .unset, .unset] [(.int y15), (.int (7 : Int32)), (.ref b28)])) (fun _ k => XS.iload X62.here hx rfl (hb hby at_233) rfl k) ?_
    refine own_go (U' := T62.setTop (mkF m 237 #[.val (.int p0), .val (.int p1), .val (.int p2), .val (.int y11), .val (.int y15), .val (.int y19), .val (.ref b28), .val (.int z81), .val (.int y109), .unset, .unset, .unset, .unset, .unset] [(.int z81), (.int y15), (.int (7 : Int32)), (.ref b28)])) (fun _ k => XS.iload X62.here hx rfl (hb hby at_235) rfl k) ?_
    refine own_go (U' := T62.setTop (mkF m 239 #[.val (.int p0), .val (.int p1), .val (.int p2), .val (.int y11), .val (.int y15), .val (.int y19), .val (.ref b28), .val (.int z81), .val (.int y109), .unset, .unset, .unset, .unset, .unset] [(.int y19), (.int z81), (.int y15), (.int (7 : Int32)), (.ref b28)])) (fun _ k => XS.iload X62.here hx rfl (hb hby at_237) rfl k) ?_
    obtain ⟨_, _, ⟨T64, L64, k64, n64⟩, -, X64, ⟨Lc64, hQ64, l64, y64, z64⟩, st64⟩ := Jvm.LawKit.callS X62 hx (y := (⟨"com/example/eunomia/eunomia/Utf8OutputEncodePinLaw", "untouched", "([BIIIB)Z"⟩ : MethodName)) hown (mvT hZ (hw _ (List.mem_of_getElem? (i := 7) rfl))) (mvT hZ (hw _ (List.mem_of_getElem? (i := 8) rfl))) (mvT hZ (hw _ (List.mem_of_getElem? (i := 9) rfl))) (mvT hZ (hw _ (List.mem_of_getElem? (i := 10) rfl))) (by decide) (backOf (W := 0) (rm2 l Z aw hw [] b28 (7 : Int32) y15 z81 y19 k28 (own_enc y11 y15 f76) T48.heap n0 Z48 xV48 (by first | assumption | decide) (by first | assumption | decide)) hZ (hw _ (List.mem_of_getElem? (i := 10) rfl)) (hw _ (List.mem_of_getElem? (i := 9) rfl)) (by decide) (by decide)) (g := (mkF m 239 #[.val (.int p0), .val (.int p1), .val (.int p2), .val (.int y11), .val (.int y15), .val (.int y19), .val (.ref b28), .val (.int z81), .val (.int y109), .unset, .unset, .unset, .unset, .unset] [(.int y19), (.int z81), (.int y15), (.int (7 : Int32)), (.ref b28)])) rfl (by rw [hml]; rfl) (argsL := [(.ref b28), (.int (7 : Int32)), (.int y15), (.int z81), (.int y19)]) (rest := []) (lenOf own_pd1 rfl) rfl (by show 2 * 0 + _ ≤ _; exact Nat.le_of_eq rfl) (hb hby at_239) (fun _ _ => ⟨rfl, e62, (by decide : 1 + 0 ≤ _), (by decide : 8 + 0 ≤ _)⟩)
    dsimp only [Pt.U, Pt.locs, Pt.cells, Pt.slots] at X64 l64 y64 z64 st64 hQ64
    subst l64 y64 z64
    obtain ⟨rfl, N64q, e64⟩ := hQ64
    have N64 := Fr.app N62 N64q
    refine own_go (U' := T64.setTop (mkF m 242 #[.val (.int p0), .val (.int p1), .val (.int p2), .val (.int y11), .val (.int y15), .val (.int y19), .val (.ref b28), .val (.int z81), .val (.int y109), .unset, .unset, .unset, .unset, .unset] [(.int (f_2 b28 (7 : Int32) y15 z81 y19 k28 (own_enc y11 y15 f76)))])) (fun _ k => st64 _ k) ?_
    have hc242_65 : ¬ ((f_2 b28 (7 : Int32) y15 z81 y19 k28 (own_enc y11 y15 f76)) = (0 : Int32)) := own_unt hz81 ht0 ht4 hfill (by decide) (by decide)
    refine own_go (U' := T64.setTop (mkF m 247 #[.val (.int p0), .val (.int p1), .val (.int p2), .val (.int y11), .val (.int y15), .val (.int y19), .val (.ref b28), .val (.int z81), .val (.int y109), .unset, .unset, .unset, .unset, .unset] [])) (fun _ k => XS.ifYes X64.here hx rfl (pc0 := 242) (pc' := 247) rfl (hb hby at_242) rfl ((if0 _ _).trans (feq hc242_65).2) (by decide) (by decide) k) ?_
    refine own_go (U' := T64.setTop (mkF m 249 #[.val (.int p0), .val (.int p1), .val (.int p2), .val (.int y11), .val (.int y15), .val (.int y19), .val (.ref b28), .val (.int z81), .val (.int y109), .unset, .unset, .unset, .unset, .unset] [(.ref b28)])) (fun _ k => XS.aload X64.here hx rfl (hb hby at_247) rfl rfl k) ?_
    refine own_go (U' := T64.setTop (mkF m 251 #[.val (.int p0), .val (.int p1), .val (.int p2), .val (.int y11), .val (.int y15), .val (.int y19), .val (.ref b28), .val (.int z81), .val (.int y109), .unset, .unset, .unset, .unset, .unset] [(.int y15), (.ref b28)])) (fun _ k => XS.iload X64.here hx rfl (hb hby at_249) rfl k) ?_
    have V66 := xV48
    obtain ⟨cl66, Ar66, q66, S66, Ng66, Hh66⟩ := V66
    have hj66 : ¬ y15 < 0 ∧ y15 < (8 : Int32) := (own_tt ht0 ht4).1
    have hat66 := Hh66 _ hj66.1 hj66.2
    refine own_go (U' := T64.setTop (mkF m 252 #[.val (.int p0), .val (.int p1), .val (.int p2), .val (.int y11), .val (.int y15), .val (.int y19), .val (.ref b28), .val (.int z81), .val (.int y109), .unset, .unset, .unset, .unset, .unset] [(.int ((own_enc y11 y15 f76) y15))])) (fun _ k => X64.baloadBytes hx (j := y15) (v := (.int ((own_enc y11 y15 f76) y15))) (own_cell e64 Ar66.1) (State.isArrayOf_alike hZ.alike Ar66.2.1) Ar66.2.2 (inb_of S66 hj66) hat66 (g := (mkF m 251 #[.val (.int p0), .val (.int p1), .val (.int p2), .val (.int y11), .val (.int y15), .val (.int y19), .val (.ref b28), .val (.int z81), .val (.int y109), .unset, .unset, .unset, .unset, .unset] [(.int y15), (.ref b28)])) rfl rfl (hb hby at_251) _ k) ?_
    refine own_go (U' := T64.setTop (mkF m 255 #[.val (.int p0), .val (.int p1), .val (.int p2), .val (.int y11), .val (.int y15), .val (.int y19), .val (.ref b28), .val (.int z81), .val (.int y109), .unset, .unset, .unset, .unset, .unset] [(.int (255 : Int32)), (.int ((own_enc y11 y15 f76) y15))])) (fun _ k => XS.sipush X64.here hx rfl (hb hby at_252) k) ?_
    refine own_go (U' := T64.setTop (mkF m 256 #[.val (.int p0), .val (.int p1), .val (.int p2), .val (.int y11), .val (.int y15), .val (.int y19), .val (.ref b28), .val (.int z81), .val (.int y109), .unset, .unset, .unset, .unset, .unset] [(.int (((own_enc y11 y15 f76) y15) &&& (255 : Int32)))])) (fun _ k => XS.iand X64.here hx rfl (hb hby at_255) rfl k) ?_
    generalize hy256 : (((own_enc y11 y15 f76) y15) &&& (255 : Int32)) = y256
    refine own_go (U' := T64.setTop (mkF m 258 #[.val (.int p0), .val (.int p1), .val (.int p2), .val (.int y11), .val (.int y15), .val (.int y19), .val (.ref b28), .val (.int z81), .val (.int y109), .val (.int y256), .unset, .unset, .unset, .unset] [])) (fun _ k => XS.istore X64.here hx rfl (hb hby at_256) rfl (l' := #[.val (.int p0), .val (.int p1), .val (.int p2), .val (.int y11), .val (.int y15), .val (.int y19), .val (.ref b28), .val (.int z81), .val (.int y109), .val (.int y256), .unset, .unset, .unset, .unset]) rfl k) ?_
    refine own_go (U' := T64.setTop (mkF m 260 #[.val (.int p0), .val (.int p1), .val (.int p2), .val (.int y11), .val (.int y15), .val (.int y19), .val (.ref b28), .val (.int z81), .val (.int y109), .val (.int y256), .unset, .unset, .unset, .unset] [(.ref b28)])) (fun _ k => XS.aload X64.here hx rfl (hb hby at_258) rfl rfl k) ?_
    refine own_go (U' := T64.setTop (mkF m 262 #[.val (.int p0), .val (.int p1), .val (.int p2), .val (.int y11), .val (.int y15), .val (.int y19), .val (.ref b28), .val (.int z81), .val (.int y109), .val (.int y256), .unset, .unset, .unset, .unset] [(.int y15), (.ref b28)])) (fun _ k => XS.iload X64.here hx rfl (hb hby at_260) rfl k) ?_
    refine own_go (U' := T64.setTop (mkF m 263 #[.val (.int p0), .val (.int p1), .val (.int p2), .val (.int y11), .val (.int y15), .val (.int y19), .val (.ref b28), .val (.int z81), .val (.int y109), .val (.int y256), .unset, .unset, .unset, .unset] [(.int (1 : Int32)), (.int y15), (.ref b28)])) (fun _ k => XS.iconst X64.here hx rfl (hb hby at_262) k) ?_
    refine own_go (U' := T64.setTop (mkF m 264 #[.val (.int p0), .val (.int p1), .val (.int p2), .val (.int y11), .val (.int y15), .val (.int y19), .val (.ref b28), .val (.int z81), .val (.int y109), .val (.int y256), .unset, .unset, .unset, .unset] [(.int (y15 + (1 : Int32))), (.ref b28)])) (fun _ k => XS.iadd X64.here hx rfl (hb hby at_263) rfl k) ?_
    have V67 := xV48
    obtain ⟨cl67, Ar67, q67, S67, Ng67, Hh67⟩ := V67
    have hj67 : ¬ (y15 + (1 : Int32)) < 0 ∧ (y15 + (1 : Int32)) < (8 : Int32) := (own_tt ht0 ht4).2.1
    have hat67 := Hh67 _ hj67.1 hj67.2
    refine own_go (U' := T64.setTop (mkF m 265 #[.val (.int p0), .val (.int p1), .val (.int p2), .val (.int y11), .val (.int y15), .val (.int y19), .val (.ref b28), .val (.int z81), .val (.int y109), .val (.int y256), .unset, .unset, .unset, .unset] [(.int ((own_enc y11 y15 f76) (y15 + (1 : Int32))))])) (fun _ k => X64.baloadBytes hx (j := (y15 + (1 : Int32))) (v := (.int ((own_enc y11 y15 f76) (y15 + (1 : Int32))))) (own_cell e64 Ar67.1) (State.isArrayOf_alike hZ.alike Ar67.2.1) Ar67.2.2 (inb_of S67 hj67) hat67 (g := (mkF m 264 #[.val (.int p0), .val (.int p1), .val (.int p2), .val (.int y11), .val (.int y15), .val (.int y19), .val (.ref b28), .val (.int z81), .val (.int y109), .val (.int y256), .unset, .unset, .unset, .unset] [(.int (y15 + (1 : Int32))), (.ref b28)])) rfl rfl (hb hby at_264) _ k) ?_
    refine own_go (U' := T64.setTop (mkF m 268 #[.val (.int p0), .val (.int p1), .val (.int p2), .val (.int y11), .val (.int y15), .val (.int y19), .val (.ref b28), .val (.int z81), .val (.int y109), .val (.int y256), .unset, .unset, .unset, .unset] [(.int (255 : Int32)), (.int ((own_enc y11 y15 f76) (y15 + (1 : Int32))))])) (fun _ k => XS.sipush X64.here hx rfl (hb hby at_265) k) ?_
    refine own_go (U' := T64.setTop (mkF m 269 #[.val (.int p0), .val (.int p1), .val (.int p2), .val (.int y11), .val (.int y15), .val (.int y19), .val (.ref b28), .val (.int z81), .val (.int y109), .val (.int y256), .unset, .unset, .unset, .unset] [(.int (((own_enc y11 y15 f76) (y15 + (1 : Int32))) &&& (255 : Int32)))])) (fun _ k => XS.iand X64.here hx rfl (hb hby at_268) rfl k) ?_
    generalize hy269 : (((own_enc y11 y15 f76) (y15 + (1 : Int32))) &&& (255 : Int32)) = y269
    refine own_go (U' := T64.setTop (mkF m 271 #[.val (.int p0), .val (.int p1), .val (.int p2), .val (.int y11), .val (.int y15), .val (.int y19), .val (.ref b28), .val (.int z81), .val (.int y109), .val (.int y256), .val (.int y269), .unset, .unset, .unset] [])) (fun _ k => XS.istore X64.here hx rfl (hb hby at_269) rfl (l' := #[.val (.int p0), .val (.int p1), .val (.int p2), .val (.int y11), .val (.int y15), .val (.int y19), .val (.ref b28), .val (.int z81), .val (.int y109), .val (.int y256), .val (.int y269), .unset, .unset, .unset]) rfl k) ?_
    refine own_go (U' := T64.setTop (mkF m 273 #[.val (.int p0), .val (.int p1), .val (.int p2), .val (.int y11), .val (.int y15), .val (.int y19), .val (.ref b28), .val (.int z81), .val (.int y109), .val (.int y256), .val (.int y269), .unset, .unset, .unset] [(.int z81)])) (fun _ k => XS.iload X64.here hx rfl (hb hby at_271) rfl k) ?_
    refine own_go (U' := T64.setTop (mkF m 274 #[.val (.int p0), .val (.int p1), .val (.int p2), .val (.int y11), .val (.int y15), .val (.int y19), .val (.ref b28), .val (.int z81), .val (.int y109), .val (.int y256), .val (.int y269), .unset, .unset, .unset] [(.int (2 : Int32)), (.int z81)])) (fun _ k => XS.iconst X64.here hx rfl (hb hby at_273) k) ?_
    by_cases hc274_68 : z81 = (2 : Int32)
    · refine own_go (U' := T64.setTop (mkF m 277 #[.val (.int p0), .val (.int p1), .val (.int p2), .val (.int y11), .val (.int y15), .val (.int y19), .val (.ref b28), .val (.int z81), .val (.int y109), .val (.int y256), .val (.int y269), .unset, .unset, .unset] [])) (fun _ k => XS.icmpNo X64.here hx rfl (hb hby at_274) rfl (teq hc274_68).2 k) ?_
      have hr1 := own_z2 hz81 hc274_68
      obtain ⟨v0, v1⟩ := own_c2 hcp0 hr1 ht0 ht4 hy256 hy269
      have hr2 : y11.toInt < 2048 := Int32.lt_iff_toInt_lt.mp hr1
      refine own_go (U' := T64.setTop (mkF m 279 #[.val (.int p0), .val (.int p1), .val (.int p2), .val (.int y11), .val (.int y15), .val (.int y19), .val (.ref b28), .val (.int z81), .val (.int y109), .val (.int y256), .val (.int y269), .unset, .unset, .unset] [(.int y256)])) (fun _ k => XS.iload X64.here hx rfl (hb hby at_277) rfl k) ?_
      refine own_go (U' := T64.setTop (mkF m 282 #[.val (.int p0), .val (.int p1), .val (.int p2), .val (.int y11), .val (.int y15), .val (.int y19), .val (.ref b28), .val (.int z81), .val (.int y109), .val (.int y256), .val (.int y269), .unset, .unset, .unset] [(.int (224 : Int32)), (.int y256)])) (fun _ k => XS.sipush X64.here hx rfl (hb hby at_279) k) ?_
      refine own_go (U' := T64.setTop (mkF m 283 #[.val (.int p0), .val (.int p1), .val (.int p2), .val (.int y11), .val (.int y15), .val (.int y19), .val (.ref b28), .val (.int z81), .val (.int y109), .val (.int y256), .val (.int y269), .unset, .unset, .unset] [(.int (y256 &&& (224 : Int32)))])) (fun _ k => XS.iand X64.here hx rfl (hb hby at_282) rfl k) ?_
      refine own_go (U' := T64.setTop (mkF m 286 #[.val (.int p0), .val (.int p1), .val (.int p2), .val (.int y11), .val (.int y15), .val (.int y19), .val (.ref b28), .val (.int z81), .val (.int y109), .val (.int y256), .val (.int y269), .unset, .unset, .unset] [(.int (192 : Int32)), (.int (y256 &&& (224 : Int32)))])) (fun _ k => XS.sipush X64.here hx rfl (hb hby at_283) k) ?_
      have hc286_69 : (y256 &&& (224 : Int32)) = (192 : Int32) := own_m224 (by omega) (by omega)
      refine own_go (U' := T64.setTop (mkF m 289 #[.val (.int p0), .val (.int p1), .val (.int p2), .val (.int y11), .val (.int y15), .val (.int y19), .val (.ref b28), .val (.int z81), .val (.int y109), .val (.int y256), .val (.int y269), .unset, .unset, .unset] [])) (fun _ k => XS.icmpNo X64.here hx rfl (hb hby at_286) rfl (teq hc286_69).2 k) ?_
      refine own_go (U' := T64.setTop (mkF m 291 #[.val (.int p0), .val (.int p1), .val (.int p2), .val (.int y11), .val (.int y15), .val (.int y19), .val (.ref b28), .val (.int z81), .val (.int y109), .val (.int y256), .val (.int y269), .unset, .unset, .unset] [(.int y269)])) (fun _ k => XS.iload X64.here hx rfl (hb hby at_289) rfl k) ?_
      obtain ⟨_, _, ⟨T70, L70, k70, n70⟩, -, X70, ⟨Lc70, hQ70, l70, y70, z70⟩, st70⟩ := Jvm.LawKit.callS X64 hx (y := (⟨"com/example/eunomia/eunomia/Utf8OutputEncodePinLaw", "cont", "(I)Z"⟩ : MethodName)) hown (mvT hZ (hw _ (List.mem_of_getElem? (i := 11) rfl))) (mvT hZ (hw _ (List.mem_of_getElem? (i := 12) rfl))) (mvT hZ (hw _ (List.mem_of_getElem? (i := 9) rfl))) (mvT hZ (hw _ (List.mem_of_getElem? (i := 13) rfl))) (by decide) (backOf (W := 0) (rm3 l Z aw hw [] y269 T48.heap n0 Z48 ) hZ (hw _ (List.mem_of_getElem? (i := 13) rfl)) (hw _ (List.mem_of_getElem? (i := 9) rfl)) (by decide) (by decide)) (g := (mkF m 291 #[.val (.int p0), .val (.int p1), .val (.int p2), .val (.int y11), .val (.int y15), .val (.int y19), .val (.ref b28), .val (.int z81), .val (.int y109), .val (.int y256), .val (.int y269), .unset, .unset, .unset] [(.int y269)])) rfl (by rw [hml]; rfl) (argsL := [(.int y269)]) (rest := []) (lenOf own_pd2 rfl) rfl (by show 2 * 0 + _ ≤ _; exact Nat.le_of_eq rfl) (hb hby at_291) (fun _ _ => ⟨rfl, e64, (by decide : 1 + 0 ≤ _), (by decide : 8 + 0 ≤ _)⟩)
      dsimp only [Pt.U, Pt.locs, Pt.cells, Pt.slots] at X70 l70 y70 z70 st70 hQ70
      subst l70 y70 z70
      obtain ⟨rfl, N70q, e70⟩ := hQ70
      have N70 := Fr.app N64 N70q
      refine own_go (U' := T70.setTop (mkF m 294 #[.val (.int p0), .val (.int p1), .val (.int p2), .val (.int y11), .val (.int y15), .val (.int y19), .val (.ref b28), .val (.int z81), .val (.int y109), .val (.int y256), .val (.int y269), .unset, .unset, .unset] [(.int (f_3 y269))])) (fun _ k => st70 _ k) ?_
      have hc294_71 : ¬ ((f_3 y269) = (0 : Int32)) := own_cont (by omega) (by omega)
      refine own_go (U' := T70.setTop (mkF m 299 #[.val (.int p0), .val (.int p1), .val (.int p2), .val (.int y11), .val (.int y15), .val (.int y19), .val (.ref b28), .val (.int z81), .val (.int y109), .val (.int y256), .val (.int y269), .unset, .unset, .unset] [])) (fun _ k => XS.ifYes X70.here hx rfl (pc0 := 294) (pc' := 299) rfl (hb hby at_294) rfl ((if0 _ _).trans (feq hc294_71).2) (by decide) (by decide) k) ?_
      refine own_go (U' := T70.setTop (mkF m 301 #[.val (.int p0), .val (.int p1), .val (.int p2), .val (.int y11), .val (.int y15), .val (.int y19), .val (.ref b28), .val (.int z81), .val (.int y109), .val (.int y256), .val (.int y269), .unset, .unset, .unset] [(.int y256)])) (fun _ k => XS.iload X70.here hx rfl (hb hby at_299) rfl k) ?_
      refine own_go (U' := T70.setTop (mkF m 303 #[.val (.int p0), .val (.int p1), .val (.int p2), .val (.int y11), .val (.int y15), .val (.int y19), .val (.ref b28), .val (.int z81), .val (.int y109), .val (.int y256), .val (.int y269), .unset, .unset, .unset] [(.int (31 : Int32)), (.int y256)])) (fun _ k => XS.bipush X70.here hx rfl (hb hby at_301) k) ?_
      refine own_go (U' := T70.setTop (mkF m 304 #[.val (.int p0), .val (.int p1), .val (.int p2), .val (.int y11), .val (.int y15), .val (.int y19), .val (.ref b28), .val (.int z81), .val (.int y109), .val (.int y256), .val (.int y269), .unset, .unset, .unset] [(.int (y256 &&& (31 : Int32)))])) (fun _ k => XS.iand X70.here hx rfl (hb hby at_303) rfl k) ?_
      refine own_go (U' := T70.setTop (mkF m 306 #[.val (.int p0), .val (.int p1), .val (.int p2), .val (.int y11), .val (.int y15), .val (.int y19), .val (.ref b28), .val (.int z81), .val (.int y109), .val (.int y256), .val (.int y269), .unset, .unset, .unset] [(.int (6 : Int32)), (.int (y256 &&& (31 : Int32)))])) (fun _ k => XS.bipush X70.here hx rfl (hb hby at_304) k) ?_
      refine own_go (U' := T70.setTop (mkF m 307 #[.val (.int p0), .val (.int p1), .val (.int p2), .val (.int y11), .val (.int y15), .val (.int y19), .val (.ref b28), .val (.int z81), .val (.int y109), .val (.int y256), .val (.int y269), .unset, .unset, .unset] [(.int ((y256 &&& (31 : Int32)) <<< ((6 : Int32) &&& 31)))])) (fun _ k => XS.ishl X70.here hx rfl (hb hby at_306) rfl k) ?_
      refine own_go (U' := T70.setTop (mkF m 309 #[.val (.int p0), .val (.int p1), .val (.int p2), .val (.int y11), .val (.int y15), .val (.int y19), .val (.ref b28), .val (.int z81), .val (.int y109), .val (.int y256), .val (.int y269), .unset, .unset, .unset] [(.int y269), (.int ((y256 &&& (31 : Int32)) <<< ((6 : Int32) &&& 31)))])) (fun _ k => XS.iload X70.here hx rfl (hb hby at_307) rfl k) ?_
      refine own_go (U' := T70.setTop (mkF m 311 #[.val (.int p0), .val (.int p1), .val (.int p2), .val (.int y11), .val (.int y15), .val (.int y19), .val (.ref b28), .val (.int z81), .val (.int y109), .val (.int y256), .val (.int y269), .unset, .unset, .unset] [(.int (63 : Int32)), (.int y269), (.int ((y256 &&& (31 : Int32)) <<< ((6 : Int32) &&& 31)))])) (fun _ k => XS.bipush X70.here hx rfl (hb hby at_309) k) ?_
      refine own_go (U' := T70.setTop (mkF m 312 #[.val (.int p0), .val (.int p1), .val (.int p2), .val (.int y11), .val (.int y15), .val (.int y19), .val (.ref b28), .val (.int z81), .val (.int y109), .val (.int y256), .val (.int y269), .unset, .unset, .unset] [(.int (y269 &&& (63 : Int32))), (.int ((y256 &&& (31 : Int32)) <<< ((6 : Int32) &&& 31)))])) (fun _ k => XS.iand X70.here hx rfl (hb hby at_311) rfl k) ?_
      refine own_go (U' := T70.setTop (mkF m 313 #[.val (.int p0), .val (.int p1), .val (.int p2), .val (.int y11), .val (.int y15), .val (.int y19), .val (.ref b28), .val (.int z81), .val (.int y109), .val (.int y256), .val (.int y269), .unset, .unset, .unset] [(.int (((y256 &&& (31 : Int32)) <<< ((6 : Int32) &&& 31)) ||| (y269 &&& (63 : Int32))))])) (fun _ k => XS.ior X70.here hx rfl (hb hby at_312) rfl k) ?_
      generalize hy313 : (((y256 &&& (31 : Int32)) <<< ((6 : Int32) &&& 31)) ||| (y269 &&& (63 : Int32))) = y313
      refine own_go (U' := T70.setTop (mkF m 315 #[.val (.int p0), .val (.int p1), .val (.int p2), .val (.int y11), .val (.int y15), .val (.int y19), .val (.ref b28), .val (.int z81), .val (.int y109), .val (.int y256), .val (.int y269), .val (.int y313), .unset, .unset] [])) (fun _ k => XS.istore X70.here hx rfl (hb hby at_313) rfl (l' := #[.val (.int p0), .val (.int p1), .val (.int p2), .val (.int y11), .val (.int y15), .val (.int y19), .val (.ref b28), .val (.int z81), .val (.int y109), .val (.int y256), .val (.int y269), .val (.int y313), .unset, .unset]) rfl k) ?_
      refine own_go (U' := T70.setTop (mkF m 493 #[.val (.int p0), .val (.int p1), .val (.int p2), .val (.int y11), .val (.int y15), .val (.int y19), .val (.ref b28), .val (.int z81), .val (.int y109), .val (.int y256), .val (.int y269), .val (.int y313), .unset, .unset] [])) (fun _ k => XS.goto X70.here hx rfl (pc0 := 315) (pc' := 493) rfl (hb hby at_315) (by decide) (by decide) k) ?_
      refine own_go (U' := T70.setTop (mkF m 495 #[.val (.int p0), .val (.int p1), .val (.int p2), .val (.int y11), .val (.int y15), .val (.int y19), .val (.ref b28), .val (.int z81), .val (.int y109), .val (.int y256), .val (.int y269), .val (.int y313), .unset, .unset] [(.int y313)])) (fun _ k => XS.iload X70.here hx rfl (hb hby at_493) rfl k) ?_
      refine own_go (U' := T70.setTop (mkF m 496 #[.val (.int p0), .val (.int p1), .val (.int p2), .val (.int y11), .val (.int y15), .val (.int y19), .val (.ref b28), .val (.int z81), .val (.int y109), .val (.int y256), .val (.int y269), .val (.int y313), .unset, .unset] [(.int y11), (.int y313)])) (fun _ k => XS.iloadN X70.here hx rfl (hb hby at_495) rfl k) ?_
      have hc496_72 : y313 = y11 := hy313.symm.trans (own_v2 (by omega) hr2 v0 v1)
      refine own_go (U' := T70.setTop (mkF m 499 #[.val (.int p0), .val (.int p1), .val (.int p2), .val (.int y11), .val (.int y15), .val (.int y19), .val (.ref b28), .val (.int z81), .val (.int y109), .val (.int y256), .val (.int y269), .val (.int y313), .unset, .unset] [])) (fun _ k => XS.icmpNo X70.here hx rfl (hb hby at_496) rfl (teq hc496_72).2 k) ?_
      refine own_go (U' := T70.setTop (mkF m 500 #[.val (.int p0), .val (.int p1), .val (.int p2), .val (.int y11), .val (.int y15), .val (.int y19), .val (.ref b28), .val (.int z81), .val (.int y109), .val (.int y256), .val (.int y269), .val (.int y313), .unset, .unset] [(.int (1 : Int32))])) (fun _ k => XS.iconst X70.here hx rfl (hb hby at_499) k) ?_
      refine own_go (U' := T70.setTop (mkF m 504 #[.val (.int p0), .val (.int p1), .val (.int p2), .val (.int y11), .val (.int y15), .val (.int y19), .val (.ref b28), .val (.int z81), .val (.int y109), .val (.int y256), .val (.int y269), .val (.int y313), .unset, .unset] [(.int (1 : Int32))])) (fun _ k => XS.goto X70.here hx rfl (pc0 := 500) (pc' := 504) rfl (hb hby at_500) (by decide) (by decide) k) ?_
      refine own_ret X70 (v := (some (.int (1 : Int32)))) hlk (fun h => by rw [Bd.returns] at h; cases h) (by decide) (by decide) (fun fs hr => retN X70 hx (t := .boolean) Bd.returns (by simp) (hb hby at_504) hr) ?_
      show (Q0 Z p0 p1 p2 h0 n0) _ T70.heap _
      rw [e70]
      exact ⟨rfl, N70⟩
    · refine own_go (U' := T64.setTop (mkF m 318 #[.val (.int p0), .val (.int p1), .val (.int p2), .val (.int y11), .val (.int y15), .val (.int y19), .val (.ref b28), .val (.int z81), .val (.int y109), .val (.int y256), .val (.int y269), .unset, .unset, .unset] [])) (fun _ k => XS.icmpYes X64.here hx rfl (pc0 := 274) (pc' := 318) rfl (hb hby at_274) rfl (feq hc274_68).2 (by decide) (by decide) k) ?_
      refine own_go (U' := T64.setTop (mkF m 320 #[.val (.int p0), .val (.int p1), .val (.int p2), .val (.int y11), .val (.int y15), .val (.int y19), .val (.ref b28), .val (.int z81), .val (.int y109), .val (.int y256), .val (.int y269), .unset, .unset, .unset] [(.int z81)])) (fun _ k => XS.iload X64.here hx rfl (hb hby at_318) rfl k) ?_
      refine own_go (U' := T64.setTop (mkF m 321 #[.val (.int p0), .val (.int p1), .val (.int p2), .val (.int y11), .val (.int y15), .val (.int y19), .val (.ref b28), .val (.int z81), .val (.int y109), .val (.int y256), .val (.int y269), .unset, .unset, .unset] [(.int (3 : Int32)), (.int z81)])) (fun _ k => XS.iconst X64.here hx rfl (hb hby at_320) k) ?_
      by_cases hc321_73 : z81 = (3 : Int32)
      · refine own_go (U' := T64.setTop (mkF m 324 #[.val (.int p0), .val (.int p1), .val (.int p2), .val (.int y11), .val (.int y15), .val (.int y19), .val (.ref b28), .val (.int z81), .val (.int y109), .val (.int y256), .val (.int y269), .unset, .unset, .unset] [])) (fun _ k => XS.icmpNo X64.here hx rfl (hb hby at_321) rfl (teq hc321_73).2 k) ?_
        refine own_go (U' := T64.setTop (mkF m 326 #[.val (.int p0), .val (.int p1), .val (.int p2), .val (.int y11), .val (.int y15), .val (.int y19), .val (.ref b28), .val (.int z81), .val (.int y109), .val (.int y256), .val (.int y269), .unset, .unset, .unset] [(.ref b28)])) (fun _ k => XS.aload X64.here hx rfl (hb hby at_324) rfl rfl k) ?_
        refine own_go (U' := T64.setTop (mkF m 328 #[.val (.int p0), .val (.int p1), .val (.int p2), .val (.int y11), .val (.int y15), .val (.int y19), .val (.ref b28), .val (.int z81), .val (.int y109), .val (.int y256), .val (.int y269), .unset, .unset, .unset] [(.int y15), (.ref b28)])) (fun _ k => XS.iload X64.here hx rfl (hb hby at_326) rfl k) ?_
        refine own_go (U' := T64.setTop (mkF m 329 #[.val (.int p0), .val (.int p1), .val (.int p2), .val (.int y11), .val (.int y15), .val (.int y19), .val (.ref b28), .val (.int z81), .val (.int y109), .val (.int y256), .val (.int y269), .unset, .unset, .unset] [(.int (2 : Int32)), (.int y15), (.ref b28)])) (fun _ k => XS.iconst X64.here hx rfl (hb hby at_328) k) ?_
        refine own_go (U' := T64.setTop (mkF m 330 #[.val (.int p0), .val (.int p1), .val (.int p2), .val (.int y11), .val (.int y15), .val (.int y19), .val (.ref b28), .val (.int z81), .val (.int y109), .val (.int y256), .val (.int y269), .unset, .unset, .unset] [(.int (y15 + (2 : Int32))), (.ref b28)])) (fun _ k => XS.iadd X64.here hx rfl (hb hby at_329) rfl k) ?_
        have V74 := xV48
        obtain ⟨cl74, Ar74, q74, S74, Ng74, Hh74⟩ := V74
        have hj74 : ¬ (y15 + (2 : Int32)) < 0 ∧ (y15 + (2 : Int32)) < (8 : Int32) := (own_tt ht0 ht4).2.2.1
        have hat74 := Hh74 _ hj74.1 hj74.2
        refine own_go (U' := T64.setTop (mkF m 331 #[.val (.int p0), .val (.int p1), .val (.int p2), .val (.int y11), .val (.int y15), .val (.int y19), .val (.ref b28), .val (.int z81), .val (.int y109), .val (.int y256), .val (.int y269), .unset, .unset, .unset] [(.int ((own_enc y11 y15 f76) (y15 + (2 : Int32))))])) (fun _ k => X64.baloadBytes hx (j := (y15 + (2 : Int32))) (v := (.int ((own_enc y11 y15 f76) (y15 + (2 : Int32))))) (own_cell e64 Ar74.1) (State.isArrayOf_alike hZ.alike Ar74.2.1) Ar74.2.2 (inb_of S74 hj74) hat74 (g := (mkF m 330 #[.val (.int p0), .val (.int p1), .val (.int p2), .val (.int y11), .val (.int y15), .val (.int y19), .val (.ref b28), .val (.int z81), .val (.int y109), .val (.int y256), .val (.int y269), .unset, .unset, .unset] [(.int (y15 + (2 : Int32))), (.ref b28)])) rfl rfl (hb hby at_330) _ k) ?_
        refine own_go (U' := T64.setTop (mkF m 334 #[.val (.int p0), .val (.int p1), .val (.int p2), .val (.int y11), .val (.int y15), .val (.int y19), .val (.ref b28), .val (.int z81), .val (.int y109), .val (.int y256), .val (.int y269), .unset, .unset, .unset] [(.int (255 : Int32)), (.int ((own_enc y11 y15 f76) (y15 + (2 : Int32))))])) (fun _ k => XS.sipush X64.here hx rfl (hb hby at_331) k) ?_
        refine own_go (U' := T64.setTop (mkF m 335 #[.val (.int p0), .val (.int p1), .val (.int p2), .val (.int y11), .val (.int y15), .val (.int y19), .val (.ref b28), .val (.int z81), .val (.int y109), .val (.int y256), .val (.int y269), .unset, .unset, .unset] [(.int (((own_enc y11 y15 f76) (y15 + (2 : Int32))) &&& (255 : Int32)))])) (fun _ k => XS.iand X64.here hx rfl (hb hby at_334) rfl k) ?_
        generalize hy335 : (((own_enc y11 y15 f76) (y15 + (2 : Int32))) &&& (255 : Int32)) = y335
        refine own_go (U' := T64.setTop (mkF m 337 #[.val (.int p0), .val (.int p1), .val (.int p2), .val (.int y11), .val (.int y15), .val (.int y19), .val (.ref b28), .val (.int z81), .val (.int y109), .val (.int y256), .val (.int y269), .unset, .val (.int y335), .unset] [])) (fun _ k => XS.istore X64.here hx rfl (hb hby at_335) rfl (l' := #[.val (.int p0), .val (.int p1), .val (.int p2), .val (.int y11), .val (.int y15), .val (.int y19), .val (.ref b28), .val (.int z81), .val (.int y109), .val (.int y256), .val (.int y269), .unset, .val (.int y335), .unset]) rfl k) ?_
        have hr1 := own_z3 hz81 hc274_68
        have hr2 := own_z3' hz81 hc321_73
        obtain ⟨v0, v1, v2⟩ := own_c3 hcp0 hr1 hr2 ht0 ht4 hy256 hy269 hy335
        have hr3 : y11.toInt < 65536 := Int32.lt_iff_toInt_lt.mp hr2
        refine own_go (U' := T64.setTop (mkF m 339 #[.val (.int p0), .val (.int p1), .val (.int p2), .val (.int y11), .val (.int y15), .val (.int y19), .val (.ref b28), .val (.int z81), .val (.int y109), .val (.int y256), .val (.int y269), .unset, .val (.int y335), .unset] [(.int y256)])) (fun _ k => XS.iload X64.here hx rfl (hb hby at_337) rfl k) ?_
        refine own_go (U' := T64.setTop (mkF m 342 #[.val (.int p0), .val (.int p1), .val (.int p2), .val (.int y11), .val (.int y15), .val (.int y19), .val (.ref b28), .val (.int z81), .val (.int y109), .val (.int y256), .val (.int y269), .unset, .val (.int y335), .unset] [(.int (240 : Int32)), (.int y256)])) (fun _ k => XS.sipush X64.here hx rfl (hb hby at_339) k) ?_
        refine own_go (U' := T64.setTop (mkF m 343 #[.val (.int p0), .val (.int p1), .val (.int p2), .val (.int y11), .val (.int y15), .val (.int y19), .val (.ref b28), .val (.int z81), .val (.int y109), .val (.int y256), .val (.int y269), .unset, .val (.int y335), .unset] [(.int (y256 &&& (240 : Int32)))])) (fun _ k => XS.iand X64.here hx rfl (hb hby at_342) rfl k) ?_
        refine own_go (U' := T64.setTop (mkF m 346 #[.val (.int p0), .val (.int p1), .val (.int p2), .val (.int y11), .val (.int y15), .val (.int y19), .val (.ref b28), .val (.int z81), .val (.int y109), .val (.int y256), .val (.int y269), .unset, .val (.int y335), .unset] [(.int (224 : Int32)), (.int (y256 &&& (240 : Int32)))])) (fun _ k => XS.sipush X64.here hx rfl (hb hby at_343) k) ?_
        have hc346_75 : (y256 &&& (240 : Int32)) = (224 : Int32) := own_m240 (by omega) (by omega)
        refine own_go (U' := T64.setTop (mkF m 349 #[.val (.int p0), .val (.int p1), .val (.int p2), .val (.int y11), .val (.int y15), .val (.int y19), .val (.ref b28), .val (.int z81), .val (.int y109), .val (.int y256), .val (.int y269), .unset, .val (.int y335), .unset] [])) (fun _ k => XS.icmpNo X64.here hx rfl (hb hby at_346) rfl (teq hc346_75).2 k) ?_
        refine own_go (U' := T64.setTop (mkF m 351 #[.val (.int p0), .val (.int p1), .val (.int p2), .val (.int y11), .val (.int y15), .val (.int y19), .val (.ref b28), .val (.int z81), .val (.int y109), .val (.int y256), .val (.int y269), .unset, .val (.int y335), .unset] [(.int y269)])) (fun _ k => XS.iload X64.here hx rfl (hb hby at_349) rfl k) ?_
        obtain ⟨_, _, ⟨T76, L76, k76, n76⟩, -, X76, ⟨Lc76, hQ76, l76, y76, z76⟩, st76⟩ := Jvm.LawKit.callS X64 hx (y := (⟨"com/example/eunomia/eunomia/Utf8OutputEncodePinLaw", "cont", "(I)Z"⟩ : MethodName)) hown (mvT hZ (hw _ (List.mem_of_getElem? (i := 11) rfl))) (mvT hZ (hw _ (List.mem_of_getElem? (i := 12) rfl))) (mvT hZ (hw _ (List.mem_of_getElem? (i := 9) rfl))) (mvT hZ (hw _ (List.mem_of_getElem? (i := 13) rfl))) (by decide) (backOf (W := 0) (rm3 l Z aw hw [] y269 T48.heap n0 Z48 ) hZ (hw _ (List.mem_of_getElem? (i := 13) rfl)) (hw _ (List.mem_of_getElem? (i := 9) rfl)) (by decide) (by decide)) (g := (mkF m 351 #[.val (.int p0), .val (.int p1), .val (.int p2), .val (.int y11), .val (.int y15), .val (.int y19), .val (.ref b28), .val (.int z81), .val (.int y109), .val (.int y256), .val (.int y269), .unset, .val (.int y335), .unset] [(.int y269)])) rfl (by rw [hml]; rfl) (argsL := [(.int y269)]) (rest := []) (lenOf own_pd2 rfl) rfl (by show 2 * 0 + _ ≤ _; exact Nat.le_of_eq rfl) (hb hby at_351) (fun _ _ => ⟨rfl, e64, (by decide : 1 + 0 ≤ _), (by decide : 8 + 0 ≤ _)⟩)
        dsimp only [Pt.U, Pt.locs, Pt.cells, Pt.slots] at X76 l76 y76 z76 st76 hQ76
        subst l76 y76 z76
        obtain ⟨rfl, N76q, e76⟩ := hQ76
        have N76 := Fr.app N64 N76q
        refine own_go (U' := T76.setTop (mkF m 354 #[.val (.int p0), .val (.int p1), .val (.int p2), .val (.int y11), .val (.int y15), .val (.int y19), .val (.ref b28), .val (.int z81), .val (.int y109), .val (.int y256), .val (.int y269), .unset, .val (.int y335), .unset] [(.int (f_3 y269))])) (fun _ k => st76 _ k) ?_
        have hc354_77 : ¬ ((f_3 y269) = (0 : Int32)) := own_cont (by omega) (by omega)
        refine own_go (U' := T76.setTop (mkF m 357 #[.val (.int p0), .val (.int p1), .val (.int p2), .val (.int y11), .val (.int y15), .val (.int y19), .val (.ref b28), .val (.int z81), .val (.int y109), .val (.int y256), .val (.int y269), .unset, .val (.int y335), .unset] [])) (fun _ k => XS.ifNo X76.here hx rfl (hb hby at_354) rfl ((if0 _ _).trans (feq hc354_77).1) k) ?_
        refine own_go (U' := T76.setTop (mkF m 359 #[.val (.int p0), .val (.int p1), .val (.int p2), .val (.int y11), .val (.int y15), .val (.int y19), .val (.ref b28), .val (.int z81), .val (.int y109), .val (.int y256), .val (.int y269), .unset, .val (.int y335), .unset] [(.int y335)])) (fun _ k => XS.iload X76.here hx rfl (hb hby at_357) rfl k) ?_
        obtain ⟨_, _, ⟨T78, L78, k78, n78⟩, -, X78, ⟨Lc78, hQ78, l78, y78, z78⟩, st78⟩ := Jvm.LawKit.callS X76 hx (y := (⟨"com/example/eunomia/eunomia/Utf8OutputEncodePinLaw", "cont", "(I)Z"⟩ : MethodName)) hown (mvT hZ (hw _ (List.mem_of_getElem? (i := 11) rfl))) (mvT hZ (hw _ (List.mem_of_getElem? (i := 12) rfl))) (mvT hZ (hw _ (List.mem_of_getElem? (i := 9) rfl))) (mvT hZ (hw _ (List.mem_of_getElem? (i := 13) rfl))) (by decide) (backOf (W := 0) (rm3 l Z aw hw [] y335 T48.heap n0 Z48 ) hZ (hw _ (List.mem_of_getElem? (i := 13) rfl)) (hw _ (List.mem_of_getElem? (i := 9) rfl)) (by decide) (by decide)) (g := (mkF m 359 #[.val (.int p0), .val (.int p1), .val (.int p2), .val (.int y11), .val (.int y15), .val (.int y19), .val (.ref b28), .val (.int z81), .val (.int y109), .val (.int y256), .val (.int y269), .unset, .val (.int y335), .unset] [(.int y335)])) rfl (by rw [hml]; rfl) (argsL := [(.int y335)]) (rest := []) (lenOf own_pd2 rfl) rfl (by show 2 * 0 + _ ≤ _; exact Nat.le_of_eq rfl) (hb hby at_359) (fun _ _ => ⟨rfl, e76, (by decide : 1 + 0 ≤ _), (by decide : 8 + 0 ≤ _)⟩)
        dsimp only [Pt.U, Pt.locs, Pt.cells, Pt.slots] at X78 l78 y78 z78 st78 hQ78
        subst l78 y78 z78
        obtain ⟨rfl, N78q, e78⟩ := hQ78
        have N78 := Fr.app N76 N78q
        refine own_go (U' := T78.setTop (mkF m 362 #[.val (.int p0), .val (.int p1), .val (.int p2), .val (.int y11), .val (.int y15), .val (.int y19), .val (.ref b28), .val (.int z81), .val (.int y109), .val (.int y256), .val (.int y269), .unset, .val (.int y335), .unset] [(.int (f_3 y335))])) (fun _ k => st78 _ k) ?_
        have hc362_79 : ¬ ((f_3 y335) = (0 : Int32)) := own_cont (by omega) (by omega)
        refine own_go (U' := T78.setTop (mkF m 367 #[.val (.int p0), .val (.int p1), .val (.int p2), .val (.int y11), .val (.int y15), .val (.int y19), .val (.ref b28), .val (.int z81), .val (.int y109), .val (.int y256), .val (.int y269), .unset, .val (.int y335), .unset] [])) (fun _ k => XS.ifYes X78.here hx rfl (pc0 := 362) (pc' := 367) rfl (hb hby at_362) rfl ((if0 _ _).trans (feq hc362_79).2) (by decide) (by decide) k) ?_
        refine own_go (U' := T78.setTop (mkF m 369 #[.val (.int p0), .val (.int p1), .val (.int p2), .val (.int y11), .val (.int y15), .val (.int y19), .val (.ref b28), .val (.int z81), .val (.int y109), .val (.int y256), .val (.int y269), .unset, .val (.int y335), .unset] [(.int y256)])) (fun _ k => XS.iload X78.here hx rfl (hb hby at_367) rfl k) ?_
        refine own_go (U' := T78.setTop (mkF m 371 #[.val (.int p0), .val (.int p1), .val (.int p2), .val (.int y11), .val (.int y15), .val (.int y19), .val (.ref b28), .val (.int z81), .val (.int y109), .val (.int y256), .val (.int y269), .unset, .val (.int y335), .unset] [(.int (15 : Int32)), (.int y256)])) (fun _ k => XS.bipush X78.here hx rfl (hb hby at_369) k) ?_
        refine own_go (U' := T78.setTop (mkF m 372 #[.val (.int p0), .val (.int p1), .val (.int p2), .val (.int y11), .val (.int y15), .val (.int y19), .val (.ref b28), .val (.int z81), .val (.int y109), .val (.int y256), .val (.int y269), .unset, .val (.int y335), .unset] [(.int (y256 &&& (15 : Int32)))])) (fun _ k => XS.iand X78.here hx rfl (hb hby at_371) rfl k) ?_
        refine own_go (U' := T78.setTop (mkF m 374 #[.val (.int p0), .val (.int p1), .val (.int p2), .val (.int y11), .val (.int y15), .val (.int y19), .val (.ref b28), .val (.int z81), .val (.int y109), .val (.int y256), .val (.int y269), .unset, .val (.int y335), .unset] [(.int (12 : Int32)), (.int (y256 &&& (15 : Int32)))])) (fun _ k => XS.bipush X78.here hx rfl (hb hby at_372) k) ?_
        refine own_go (U' := T78.setTop (mkF m 375 #[.val (.int p0), .val (.int p1), .val (.int p2), .val (.int y11), .val (.int y15), .val (.int y19), .val (.ref b28), .val (.int z81), .val (.int y109), .val (.int y256), .val (.int y269), .unset, .val (.int y335), .unset] [(.int ((y256 &&& (15 : Int32)) <<< ((12 : Int32) &&& 31)))])) (fun _ k => XS.ishl X78.here hx rfl (hb hby at_374) rfl k) ?_
        refine own_go (U' := T78.setTop (mkF m 377 #[.val (.int p0), .val (.int p1), .val (.int p2), .val (.int y11), .val (.int y15), .val (.int y19), .val (.ref b28), .val (.int z81), .val (.int y109), .val (.int y256), .val (.int y269), .unset, .val (.int y335), .unset] [(.int y269), (.int ((y256 &&& (15 : Int32)) <<< ((12 : Int32) &&& 31)))])) (fun _ k => XS.iload X78.here hx rfl (hb hby at_375) rfl k) ?_
        refine own_go (U' := T78.setTop (mkF m 379 #[.val (.int p0), .val (.int p1), .val (.int p2), .val (.int y11), .val (.int y15), .val (.int y19), .val (.ref b28), .val (.int z81), .val (.int y109), .val (.int y256), .val (.int y269), .unset, .val (.int y335), .unset] [(.int (63 : Int32)), (.int y269), (.int ((y256 &&& (15 : Int32)) <<< ((12 : Int32) &&& 31)))])) (fun _ k => XS.bipush X78.here hx rfl (hb hby at_377) k) ?_
        refine own_go (U' := T78.setTop (mkF m 380 #[.val (.int p0), .val (.int p1), .val (.int p2), .val (.int y11), .val (.int y15), .val (.int y19), .val (.ref b28), .val (.int z81), .val (.int y109), .val (.int y256), .val (.int y269), .unset, .val (.int y335), .unset] [(.int (y269 &&& (63 : Int32))), (.int ((y256 &&& (15 : Int32)) <<< ((12 : Int32) &&& 31)))])) (fun _ k => XS.iand X78.here hx rfl (hb hby at_379) rfl k) ?_
        refine own_go (U' := T78.setTop (mkF m 382 #[.val (.int p0), .val (.int p1), .val (.int p2), .val (.int y11), .val (.int y15), .val (.int y19), .val (.ref b28), .val (.int z81), .val (.int y109), .val (.int y256), .val (.int y269), .unset, .val (.int y335), .unset] [(.int (6 : Int32)), (.int (y269 &&& (63 : Int32))), (.int ((y256 &&& (15 : Int32)) <<< ((12 : Int32) &&& 31)))])) (fun _ k => XS.bipush X78.here hx rfl (hb hby at_380) k) ?_
        refine own_go (U' := T78.setTop (mkF m 383 #[.val (.int p0), .val (.int p1), .val (.int p2), .val (.int y11), .val (.int y15), .val (.int y19), .val (.ref b28), .val (.int z81), .val (.int y109), .val (.int y256), .val (.int y269), .unset, .val (.int y335), .unset] [(.int ((y269 &&& (63 : Int32)) <<< ((6 : Int32) &&& 31))), (.int ((y256 &&& (15 : Int32)) <<< ((12 : Int32) &&& 31)))])) (fun _ k => XS.ishl X78.here hx rfl (hb hby at_382) rfl k) ?_
        refine own_go (U' := T78.setTop (mkF m 384 #[.val (.int p0), .val (.int p1), .val (.int p2), .val (.int y11), .val (.int y15), .val (.int y19), .val (.ref b28), .val (.int z81), .val (.int y109), .val (.int y256), .val (.int y269), .unset, .val (.int y335), .unset] [(.int (((y256 &&& (15 : Int32)) <<< ((12 : Int32) &&& 31)) ||| ((y269 &&& (63 : Int32)) <<< ((6 : Int32) &&& 31))))])) (fun _ k => XS.ior X78.here hx rfl (hb hby at_383) rfl k) ?_
        refine own_go (U' := T78.setTop (mkF m 386 #[.val (.int p0), .val (.int p1), .val (.int p2), .val (.int y11), .val (.int y15), .val (.int y19), .val (.ref b28), .val (.int z81), .val (.int y109), .val (.int y256), .val (.int y269), .unset, .val (.int y335), .unset] [(.int y335), (.int (((y256 &&& (15 : Int32)) <<< ((12 : Int32) &&& 31)) ||| ((y269 &&& (63 : Int32)) <<< ((6 : Int32) &&& 31))))])) (fun _ k => XS.iload X78.here hx rfl (hb hby at_384) rfl k) ?_
        refine own_go (U' := T78.setTop (mkF m 388 #[.val (.int p0), .val (.int p1), .val (.int p2), .val (.int y11), .val (.int y15), .val (.int y19), .val (.ref b28), .val (.int z81), .val (.int y109), .val (.int y256), .val (.int y269), .unset, .val (.int y335), .unset] [(.int (63 : Int32)), (.int y335), (.int (((y256 &&& (15 : Int32)) <<< ((12 : Int32) &&& 31)) ||| ((y269 &&& (63 : Int32)) <<< ((6 : Int32) &&& 31))))])) (fun _ k => XS.bipush X78.here hx rfl (hb hby at_386) k) ?_
        refine own_go (U' := T78.setTop (mkF m 389 #[.val (.int p0), .val (.int p1), .val (.int p2), .val (.int y11), .val (.int y15), .val (.int y19), .val (.ref b28), .val (.int z81), .val (.int y109), .val (.int y256), .val (.int y269), .unset, .val (.int y335), .unset] [(.int (y335 &&& (63 : Int32))), (.int (((y256 &&& (15 : Int32)) <<< ((12 : Int32) &&& 31)) ||| ((y269 &&& (63 : Int32)) <<< ((6 : Int32) &&& 31))))])) (fun _ k => XS.iand X78.here hx rfl (hb hby at_388) rfl k) ?_
        refine own_go (U' := T78.setTop (mkF m 390 #[.val (.int p0), .val (.int p1), .val (.int p2), .val (.int y11), .val (.int y15), .val (.int y19), .val (.ref b28), .val (.int z81), .val (.int y109), .val (.int y256), .val (.int y269), .unset, .val (.int y335), .unset] [(.int ((((y256 &&& (15 : Int32)) <<< ((12 : Int32) &&& 31)) ||| ((y269 &&& (63 : Int32)) <<< ((6 : Int32) &&& 31))) ||| (y335 &&& (63 : Int32))))])) (fun _ k => XS.ior X78.here hx rfl (hb hby at_389) rfl k) ?_
        generalize hy390 : ((((y256 &&& (15 : Int32)) <<< ((12 : Int32) &&& 31)) ||| ((y269 &&& (63 : Int32)) <<< ((6 : Int32) &&& 31))) ||| (y335 &&& (63 : Int32))) = y390
        refine own_go (U' := T78.setTop (mkF m 392 #[.val (.int p0), .val (.int p1), .val (.int p2), .val (.int y11), .val (.int y15), .val (.int y19), .val (.ref b28), .val (.int z81), .val (.int y109), .val (.int y256), .val (.int y269), .val (.int y390), .val (.int y335), .unset] [])) (fun _ k => XS.istore X78.here hx rfl (hb hby at_390) rfl (l' := #[.val (.int p0), .val (.int p1), .val (.int p2), .val (.int y11), .val (.int y15), .val (.int y19), .val (.ref b28), .val (.int z81), .val (.int y109), .val (.int y256), .val (.int y269), .val (.int y390), .val (.int y335), .unset]) rfl k) ?_
        refine own_go (U' := T78.setTop (mkF m 493 #[.val (.int p0), .val (.int p1), .val (.int p2), .val (.int y11), .val (.int y15), .val (.int y19), .val (.ref b28), .val (.int z81), .val (.int y109), .val (.int y256), .val (.int y269), .val (.int y390), .val (.int y335), .unset] [])) (fun _ k => XS.goto X78.here hx rfl (pc0 := 392) (pc' := 493) rfl (hb hby at_392) (by decide) (by decide) k) ?_
        refine own_go (U' := T78.setTop (mkF m 495 #[.val (.int p0), .val (.int p1), .val (.int p2), .val (.int y11), .val (.int y15), .val (.int y19), .val (.ref b28), .val (.int z81), .val (.int y109), .val (.int y256), .val (.int y269), .val (.int y390), .val (.int y335), .unset] [(.int y390)])) (fun _ k => XS.iload X78.here hx rfl (hb hby at_493) rfl k) ?_
        refine own_go (U' := T78.setTop (mkF m 496 #[.val (.int p0), .val (.int p1), .val (.int p2), .val (.int y11), .val (.int y15), .val (.int y19), .val (.ref b28), .val (.int z81), .val (.int y109), .val (.int y256), .val (.int y269), .val (.int y390), .val (.int y335), .unset] [(.int y11), (.int y390)])) (fun _ k => XS.iloadN X78.here hx rfl (hb hby at_495) rfl k) ?_
        have hc496_80 : y390 = y11 := hy390.symm.trans (own_v3 (by omega) hr3 v0 v1 v2)
        refine own_go (U' := T78.setTop (mkF m 499 #[.val (.int p0), .val (.int p1), .val (.int p2), .val (.int y11), .val (.int y15), .val (.int y19), .val (.ref b28), .val (.int z81), .val (.int y109), .val (.int y256), .val (.int y269), .val (.int y390), .val (.int y335), .unset] [])) (fun _ k => XS.icmpNo X78.here hx rfl (hb hby at_496) rfl (teq hc496_80).2 k) ?_
        refine own_go (U' := T78.setTop (mkF m 500 #[.val (.int p0), .val (.int p1), .val (.int p2), .val (.int y11), .val (.int y15), .val (.int y19), .val (.ref b28), .val (.int z81), .val (.int y109), .val (.int y256), .val (.int y269), .val (.int y390), .val (.int y335), .unset] [(.int (1 : Int32))])) (fun _ k => XS.iconst X78.here hx rfl (hb hby at_499) k) ?_
        refine own_go (U' := T78.setTop (mkF m 504 #[.val (.int p0), .val (.int p1), .val (.int p2), .val (.int y11), .val (.int y15), .val (.int y19), .val (.ref b28), .val (.int z81), .val (.int y109), .val (.int y256), .val (.int y269), .val (.int y390), .val (.int y335), .unset] [(.int (1 : Int32))])) (fun _ k => XS.goto X78.here hx rfl (pc0 := 500) (pc' := 504) rfl (hb hby at_500) (by decide) (by decide) k) ?_
        refine own_ret X78 (v := (some (.int (1 : Int32)))) hlk (fun h => by rw [Bd.returns] at h; cases h) (by decide) (by decide) (fun fs hr => retN X78 hx (t := .boolean) Bd.returns (by simp) (hb hby at_504) hr) ?_
        show (Q0 Z p0 p1 p2 h0 n0) _ T78.heap _
        rw [e78]
        exact ⟨rfl, N78⟩
      · refine own_go (U' := T64.setTop (mkF m 395 #[.val (.int p0), .val (.int p1), .val (.int p2), .val (.int y11), .val (.int y15), .val (.int y19), .val (.ref b28), .val (.int z81), .val (.int y109), .val (.int y256), .val (.int y269), .unset, .unset, .unset] [])) (fun _ k => XS.icmpYes X64.here hx rfl (pc0 := 321) (pc' := 395) rfl (hb hby at_321) rfl (feq hc321_73).2 (by decide) (by decide) k) ?_
        refine own_go (U' := T64.setTop (mkF m 397 #[.val (.int p0), .val (.int p1), .val (.int p2), .val (.int y11), .val (.int y15), .val (.int y19), .val (.ref b28), .val (.int z81), .val (.int y109), .val (.int y256), .val (.int y269), .unset, .unset, .unset] [(.ref b28)])) (fun _ k => XS.aload X64.here hx rfl (hb hby at_395) rfl rfl k) ?_
        refine own_go (U' := T64.setTop (mkF m 399 #[.val (.int p0), .val (.int p1), .val (.int p2), .val (.int y11), .val (.int y15), .val (.int y19), .val (.ref b28), .val (.int z81), .val (.int y109), .val (.int y256), .val (.int y269), .unset, .unset, .unset] [(.int y15), (.ref b28)])) (fun _ k => XS.iload X64.here hx rfl (hb hby at_397) rfl k) ?_
        refine own_go (U' := T64.setTop (mkF m 400 #[.val (.int p0), .val (.int p1), .val (.int p2), .val (.int y11), .val (.int y15), .val (.int y19), .val (.ref b28), .val (.int z81), .val (.int y109), .val (.int y256), .val (.int y269), .unset, .unset, .unset] [(.int (2 : Int32)), (.int y15), (.ref b28)])) (fun _ k => XS.iconst X64.here hx rfl (hb hby at_399) k) ?_
        refine own_go (U' := T64.setTop (mkF m 401 #[.val (.int p0), .val (.int p1), .val (.int p2), .val (.int y11), .val (.int y15), .val (.int y19), .val (.ref b28), .val (.int z81), .val (.int y109), .val (.int y256), .val (.int y269), .unset, .unset, .unset] [(.int (y15 + (2 : Int32))), (.ref b28)])) (fun _ k => XS.iadd X64.here hx rfl (hb hby at_400) rfl k) ?_
        have V81 := xV48
        obtain ⟨cl81, Ar81, q81, S81, Ng81, Hh81⟩ := V81
        have hj81 : ¬ (y15 + (2 : Int32)) < 0 ∧ (y15 + (2 : Int32)) < (8 : Int32) := (own_tt ht0 ht4).2.2.1
        have hat81 := Hh81 _ hj81.1 hj81.2
        refine own_go (U' := T64.setTop (mkF m 402 #[.val (.int p0), .val (.int p1), .val (.int p2), .val (.int y11), .val (.int y15), .val (.int y19), .val (.ref b28), .val (.int z81), .val (.int y109), .val (.int y256), .val (.int y269), .unset, .unset, .unset] [(.int ((own_enc y11 y15 f76) (y15 + (2 : Int32))))])) (fun _ k => X64.baloadBytes hx (j := (y15 + (2 : Int32))) (v := (.int ((own_enc y11 y15 f76) (y15 + (2 : Int32))))) (own_cell e64 Ar81.1) (State.isArrayOf_alike hZ.alike Ar81.2.1) Ar81.2.2 (inb_of S81 hj81) hat81 (g := (mkF m 401 #[.val (.int p0), .val (.int p1), .val (.int p2), .val (.int y11), .val (.int y15), .val (.int y19), .val (.ref b28), .val (.int z81), .val (.int y109), .val (.int y256), .val (.int y269), .unset, .unset, .unset] [(.int (y15 + (2 : Int32))), (.ref b28)])) rfl rfl (hb hby at_401) _ k) ?_
        refine own_go (U' := T64.setTop (mkF m 405 #[.val (.int p0), .val (.int p1), .val (.int p2), .val (.int y11), .val (.int y15), .val (.int y19), .val (.ref b28), .val (.int z81), .val (.int y109), .val (.int y256), .val (.int y269), .unset, .unset, .unset] [(.int (255 : Int32)), (.int ((own_enc y11 y15 f76) (y15 + (2 : Int32))))])) (fun _ k => XS.sipush X64.here hx rfl (hb hby at_402) k) ?_
        refine own_go (U' := T64.setTop (mkF m 406 #[.val (.int p0), .val (.int p1), .val (.int p2), .val (.int y11), .val (.int y15), .val (.int y19), .val (.ref b28), .val (.int z81), .val (.int y109), .val (.int y256), .val (.int y269), .unset, .unset, .unset] [(.int (((own_enc y11 y15 f76) (y15 + (2 : Int32))) &&& (255 : Int32)))])) (fun _ k => XS.iand X64.here hx rfl (hb hby at_405) rfl k) ?_
        generalize hy406 : (((own_enc y11 y15 f76) (y15 + (2 : Int32))) &&& (255 : Int32)) = y406
        refine own_go (U' := T64.setTop (mkF m 408 #[.val (.int p0), .val (.int p1), .val (.int p2), .val (.int y11), .val (.int y15), .val (.int y19), .val (.ref b28), .val (.int z81), .val (.int y109), .val (.int y256), .val (.int y269), .unset, .val (.int y406), .unset] [])) (fun _ k => XS.istore X64.here hx rfl (hb hby at_406) rfl (l' := #[.val (.int p0), .val (.int p1), .val (.int p2), .val (.int y11), .val (.int y15), .val (.int y19), .val (.ref b28), .val (.int z81), .val (.int y109), .val (.int y256), .val (.int y269), .unset, .val (.int y406), .unset]) rfl k) ?_
        refine own_go (U' := T64.setTop (mkF m 410 #[.val (.int p0), .val (.int p1), .val (.int p2), .val (.int y11), .val (.int y15), .val (.int y19), .val (.ref b28), .val (.int z81), .val (.int y109), .val (.int y256), .val (.int y269), .unset, .val (.int y406), .unset] [(.ref b28)])) (fun _ k => XS.aload X64.here hx rfl (hb hby at_408) rfl rfl k) ?_
        refine own_go (U' := T64.setTop (mkF m 412 #[.val (.int p0), .val (.int p1), .val (.int p2), .val (.int y11), .val (.int y15), .val (.int y19), .val (.ref b28), .val (.int z81), .val (.int y109), .val (.int y256), .val (.int y269), .unset, .val (.int y406), .unset] [(.int y15), (.ref b28)])) (fun _ k => XS.iload X64.here hx rfl (hb hby at_410) rfl k) ?_
        refine own_go (U' := T64.setTop (mkF m 413 #[.val (.int p0), .val (.int p1), .val (.int p2), .val (.int y11), .val (.int y15), .val (.int y19), .val (.ref b28), .val (.int z81), .val (.int y109), .val (.int y256), .val (.int y269), .unset, .val (.int y406), .unset] [(.int (3 : Int32)), (.int y15), (.ref b28)])) (fun _ k => XS.iconst X64.here hx rfl (hb hby at_412) k) ?_
        refine own_go (U' := T64.setTop (mkF m 414 #[.val (.int p0), .val (.int p1), .val (.int p2), .val (.int y11), .val (.int y15), .val (.int y19), .val (.ref b28), .val (.int z81), .val (.int y109), .val (.int y256), .val (.int y269), .unset, .val (.int y406), .unset] [(.int (y15 + (3 : Int32))), (.ref b28)])) (fun _ k => XS.iadd X64.here hx rfl (hb hby at_413) rfl k) ?_
        have V82 := xV48
        obtain ⟨cl82, Ar82, q82, S82, Ng82, Hh82⟩ := V82
        have hj82 : ¬ (y15 + (3 : Int32)) < 0 ∧ (y15 + (3 : Int32)) < (8 : Int32) := (own_tt ht0 ht4).2.2.2
        have hat82 := Hh82 _ hj82.1 hj82.2
        refine own_go (U' := T64.setTop (mkF m 415 #[.val (.int p0), .val (.int p1), .val (.int p2), .val (.int y11), .val (.int y15), .val (.int y19), .val (.ref b28), .val (.int z81), .val (.int y109), .val (.int y256), .val (.int y269), .unset, .val (.int y406), .unset] [(.int ((own_enc y11 y15 f76) (y15 + (3 : Int32))))])) (fun _ k => X64.baloadBytes hx (j := (y15 + (3 : Int32))) (v := (.int ((own_enc y11 y15 f76) (y15 + (3 : Int32))))) (own_cell e64 Ar82.1) (State.isArrayOf_alike hZ.alike Ar82.2.1) Ar82.2.2 (inb_of S82 hj82) hat82 (g := (mkF m 414 #[.val (.int p0), .val (.int p1), .val (.int p2), .val (.int y11), .val (.int y15), .val (.int y19), .val (.ref b28), .val (.int z81), .val (.int y109), .val (.int y256), .val (.int y269), .unset, .val (.int y406), .unset] [(.int (y15 + (3 : Int32))), (.ref b28)])) rfl rfl (hb hby at_414) _ k) ?_
        refine own_go (U' := T64.setTop (mkF m 418 #[.val (.int p0), .val (.int p1), .val (.int p2), .val (.int y11), .val (.int y15), .val (.int y19), .val (.ref b28), .val (.int z81), .val (.int y109), .val (.int y256), .val (.int y269), .unset, .val (.int y406), .unset] [(.int (255 : Int32)), (.int ((own_enc y11 y15 f76) (y15 + (3 : Int32))))])) (fun _ k => XS.sipush X64.here hx rfl (hb hby at_415) k) ?_
        refine own_go (U' := T64.setTop (mkF m 419 #[.val (.int p0), .val (.int p1), .val (.int p2), .val (.int y11), .val (.int y15), .val (.int y19), .val (.ref b28), .val (.int z81), .val (.int y109), .val (.int y256), .val (.int y269), .unset, .val (.int y406), .unset] [(.int (((own_enc y11 y15 f76) (y15 + (3 : Int32))) &&& (255 : Int32)))])) (fun _ k => XS.iand X64.here hx rfl (hb hby at_418) rfl k) ?_
        generalize hy419 : (((own_enc y11 y15 f76) (y15 + (3 : Int32))) &&& (255 : Int32)) = y419
        refine own_go (U' := T64.setTop (mkF m 421 #[.val (.int p0), .val (.int p1), .val (.int p2), .val (.int y11), .val (.int y15), .val (.int y19), .val (.ref b28), .val (.int z81), .val (.int y109), .val (.int y256), .val (.int y269), .unset, .val (.int y406), .val (.int y419)] [])) (fun _ k => XS.istore X64.here hx rfl (hb hby at_419) rfl (l' := #[.val (.int p0), .val (.int p1), .val (.int p2), .val (.int y11), .val (.int y15), .val (.int y19), .val (.ref b28), .val (.int z81), .val (.int y109), .val (.int y256), .val (.int y269), .unset, .val (.int y406), .val (.int y419)]) rfl k) ?_
        have hr1 := own_z3 hz81 hc274_68
        have hr2 := own_z4 hz81 hc274_68 hc321_73
        obtain ⟨v0, v1, v2, v3⟩ := own_c4 hcp0 hcp1 hr1 hr2 ht0 ht4 hy256 hy269 hy406 hy419
        refine own_go (U' := T64.setTop (mkF m 423 #[.val (.int p0), .val (.int p1), .val (.int p2), .val (.int y11), .val (.int y15), .val (.int y19), .val (.ref b28), .val (.int z81), .val (.int y109), .val (.int y256), .val (.int y269), .unset, .val (.int y406), .val (.int y419)] [(.int y256)])) (fun _ k => XS.iload X64.here hx rfl (hb hby at_421) rfl k) ?_
        refine own_go (U' := T64.setTop (mkF m 426 #[.val (.int p0), .val (.int p1), .val (.int p2), .val (.int y11), .val (.int y15), .val (.int y19), .val (.ref b28), .val (.int z81), .val (.int y109), .val (.int y256), .val (.int y269), .unset, .val (.int y406), .val (.int y419)] [(.int (248 : Int32)), (.int y256)])) (fun _ k => XS.sipush X64.here hx rfl (hb hby at_423) k) ?_
        refine own_go (U' := T64.setTop (mkF m 427 #[.val (.int p0), .val (.int p1), .val (.int p2), .val (.int y11), .val (.int y15), .val (.int y19), .val (.ref b28), .val (.int z81), .val (.int y109), .val (.int y256), .val (.int y269), .unset, .val (.int y406), .val (.int y419)] [(.int (y256 &&& (248 : Int32)))])) (fun _ k => XS.iand X64.here hx rfl (hb hby at_426) rfl k) ?_
        refine own_go (U' := T64.setTop (mkF m 430 #[.val (.int p0), .val (.int p1), .val (.int p2), .val (.int y11), .val (.int y15), .val (.int y19), .val (.ref b28), .val (.int z81), .val (.int y109), .val (.int y256), .val (.int y269), .unset, .val (.int y406), .val (.int y419)] [(.int (240 : Int32)), (.int (y256 &&& (248 : Int32)))])) (fun _ k => XS.sipush X64.here hx rfl (hb hby at_427) k) ?_
        have hc430_83 : (y256 &&& (248 : Int32)) = (240 : Int32) := own_m248 (by omega) (by omega)
        refine own_go (U' := T64.setTop (mkF m 433 #[.val (.int p0), .val (.int p1), .val (.int p2), .val (.int y11), .val (.int y15), .val (.int y19), .val (.ref b28), .val (.int z81), .val (.int y109), .val (.int y256), .val (.int y269), .unset, .val (.int y406), .val (.int y419)] [])) (fun _ k => XS.icmpNo X64.here hx rfl (hb hby at_430) rfl (teq hc430_83).2 k) ?_
        refine own_go (U' := T64.setTop (mkF m 435 #[.val (.int p0), .val (.int p1), .val (.int p2), .val (.int y11), .val (.int y15), .val (.int y19), .val (.ref b28), .val (.int z81), .val (.int y109), .val (.int y256), .val (.int y269), .unset, .val (.int y406), .val (.int y419)] [(.int y269)])) (fun _ k => XS.iload X64.here hx rfl (hb hby at_433) rfl k) ?_
        obtain ⟨_, _, ⟨T84, L84, k84, n84⟩, -, X84, ⟨Lc84, hQ84, l84, y84, z84⟩, st84⟩ := Jvm.LawKit.callS X64 hx (y := (⟨"com/example/eunomia/eunomia/Utf8OutputEncodePinLaw", "cont", "(I)Z"⟩ : MethodName)) hown (mvT hZ (hw _ (List.mem_of_getElem? (i := 11) rfl))) (mvT hZ (hw _ (List.mem_of_getElem? (i := 12) rfl))) (mvT hZ (hw _ (List.mem_of_getElem? (i := 9) rfl))) (mvT hZ (hw _ (List.mem_of_getElem? (i := 13) rfl))) (by decide) (backOf (W := 0) (rm3 l Z aw hw [] y269 T48.heap n0 Z48 ) hZ (hw _ (List.mem_of_getElem? (i := 13) rfl)) (hw _ (List.mem_of_getElem? (i := 9) rfl)) (by decide) (by decide)) (g := (mkF m 435 #[.val (.int p0), .val (.int p1), .val (.int p2), .val (.int y11), .val (.int y15), .val (.int y19), .val (.ref b28), .val (.int z81), .val (.int y109), .val (.int y256), .val (.int y269), .unset, .val (.int y406), .val (.int y419)] [(.int y269)])) rfl (by rw [hml]; rfl) (argsL := [(.int y269)]) (rest := []) (lenOf own_pd2 rfl) rfl (by show 2 * 0 + _ ≤ _; exact Nat.le_of_eq rfl) (hb hby at_435) (fun _ _ => ⟨rfl, e64, (by decide : 1 + 0 ≤ _), (by decide : 8 + 0 ≤ _)⟩)
        dsimp only [Pt.U, Pt.locs, Pt.cells, Pt.slots] at X84 l84 y84 z84 st84 hQ84
        subst l84 y84 z84
        obtain ⟨rfl, N84q, e84⟩ := hQ84
        have N84 := Fr.app N64 N84q
        refine own_go (U' := T84.setTop (mkF m 438 #[.val (.int p0), .val (.int p1), .val (.int p2), .val (.int y11), .val (.int y15), .val (.int y19), .val (.ref b28), .val (.int z81), .val (.int y109), .val (.int y256), .val (.int y269), .unset, .val (.int y406), .val (.int y419)] [(.int (f_3 y269))])) (fun _ k => st84 _ k) ?_
        have hc438_85 : ¬ ((f_3 y269) = (0 : Int32)) := own_cont (by omega) (by omega)
        refine own_go (U' := T84.setTop (mkF m 441 #[.val (.int p0), .val (.int p1), .val (.int p2), .val (.int y11), .val (.int y15), .val (.int y19), .val (.ref b28), .val (.int z81), .val (.int y109), .val (.int y256), .val (.int y269), .unset, .val (.int y406), .val (.int y419)] [])) (fun _ k => XS.ifNo X84.here hx rfl (hb hby at_438) rfl ((if0 _ _).trans (feq hc438_85).1) k) ?_
        refine own_go (U' := T84.setTop (mkF m 443 #[.val (.int p0), .val (.int p1), .val (.int p2), .val (.int y11), .val (.int y15), .val (.int y19), .val (.ref b28), .val (.int z81), .val (.int y109), .val (.int y256), .val (.int y269), .unset, .val (.int y406), .val (.int y419)] [(.int y406)])) (fun _ k => XS.iload X84.here hx rfl (hb hby at_441) rfl k) ?_
        obtain ⟨_, _, ⟨T86, L86, k86, n86⟩, -, X86, ⟨Lc86, hQ86, l86, y86, z86⟩, st86⟩ := Jvm.LawKit.callS X84 hx (y := (⟨"com/example/eunomia/eunomia/Utf8OutputEncodePinLaw", "cont", "(I)Z"⟩ : MethodName)) hown (mvT hZ (hw _ (List.mem_of_getElem? (i := 11) rfl))) (mvT hZ (hw _ (List.mem_of_getElem? (i := 12) rfl))) (mvT hZ (hw _ (List.mem_of_getElem? (i := 9) rfl))) (mvT hZ (hw _ (List.mem_of_getElem? (i := 13) rfl))) (by decide) (backOf (W := 0) (rm3 l Z aw hw [] y406 T48.heap n0 Z48 ) hZ (hw _ (List.mem_of_getElem? (i := 13) rfl)) (hw _ (List.mem_of_getElem? (i := 9) rfl)) (by decide) (by decide)) (g := (mkF m 443 #[.val (.int p0), .val (.int p1), .val (.int p2), .val (.int y11), .val (.int y15), .val (.int y19), .val (.ref b28), .val (.int z81), .val (.int y109), .val (.int y256), .val (.int y269), .unset, .val (.int y406), .val (.int y419)] [(.int y406)])) rfl (by rw [hml]; rfl) (argsL := [(.int y406)]) (rest := []) (lenOf own_pd2 rfl) rfl (by show 2 * 0 + _ ≤ _; exact Nat.le_of_eq rfl) (hb hby at_443) (fun _ _ => ⟨rfl, e84, (by decide : 1 + 0 ≤ _), (by decide : 8 + 0 ≤ _)⟩)
        dsimp only [Pt.U, Pt.locs, Pt.cells, Pt.slots] at X86 l86 y86 z86 st86 hQ86
        subst l86 y86 z86
        obtain ⟨rfl, N86q, e86⟩ := hQ86
        have N86 := Fr.app N84 N86q
        refine own_go (U' := T86.setTop (mkF m 446 #[.val (.int p0), .val (.int p1), .val (.int p2), .val (.int y11), .val (.int y15), .val (.int y19), .val (.ref b28), .val (.int z81), .val (.int y109), .val (.int y256), .val (.int y269), .unset, .val (.int y406), .val (.int y419)] [(.int (f_3 y406))])) (fun _ k => st86 _ k) ?_
        have hc446_87 : ¬ ((f_3 y406) = (0 : Int32)) := own_cont (by omega) (by omega)
        refine own_go (U' := T86.setTop (mkF m 449 #[.val (.int p0), .val (.int p1), .val (.int p2), .val (.int y11), .val (.int y15), .val (.int y19), .val (.ref b28), .val (.int z81), .val (.int y109), .val (.int y256), .val (.int y269), .unset, .val (.int y406), .val (.int y419)] [])) (fun _ k => XS.ifNo X86.here hx rfl (hb hby at_446) rfl ((if0 _ _).trans (feq hc446_87).1) k) ?_
        refine own_go (U' := T86.setTop (mkF m 451 #[.val (.int p0), .val (.int p1), .val (.int p2), .val (.int y11), .val (.int y15), .val (.int y19), .val (.ref b28), .val (.int z81), .val (.int y109), .val (.int y256), .val (.int y269), .unset, .val (.int y406), .val (.int y419)] [(.int y419)])) (fun _ k => XS.iload X86.here hx rfl (hb hby at_449) rfl k) ?_
        obtain ⟨_, _, ⟨T88, L88, k88, n88⟩, -, X88, ⟨Lc88, hQ88, l88, y88, z88⟩, st88⟩ := Jvm.LawKit.callS X86 hx (y := (⟨"com/example/eunomia/eunomia/Utf8OutputEncodePinLaw", "cont", "(I)Z"⟩ : MethodName)) hown (mvT hZ (hw _ (List.mem_of_getElem? (i := 11) rfl))) (mvT hZ (hw _ (List.mem_of_getElem? (i := 12) rfl))) (mvT hZ (hw _ (List.mem_of_getElem? (i := 9) rfl))) (mvT hZ (hw _ (List.mem_of_getElem? (i := 13) rfl))) (by decide) (backOf (W := 0) (rm3 l Z aw hw [] y419 T48.heap n0 Z48 ) hZ (hw _ (List.mem_of_getElem? (i := 13) rfl)) (hw _ (List.mem_of_getElem? (i := 9) rfl)) (by decide) (by decide)) (g := (mkF m 451 #[.val (.int p0), .val (.int p1), .val (.int p2), .val (.int y11), .val (.int y15), .val (.int y19), .val (.ref b28), .val (.int z81), .val (.int y109), .val (.int y256), .val (.int y269), .unset, .val (.int y406), .val (.int y419)] [(.int y419)])) rfl (by rw [hml]; rfl) (argsL := [(.int y419)]) (rest := []) (lenOf own_pd2 rfl) rfl (by show 2 * 0 + _ ≤ _; exact Nat.le_of_eq rfl) (hb hby at_451) (fun _ _ => ⟨rfl, e86, (by decide : 1 + 0 ≤ _), (by decide : 8 + 0 ≤ _)⟩)
        dsimp only [Pt.U, Pt.locs, Pt.cells, Pt.slots] at X88 l88 y88 z88 st88 hQ88
        subst l88 y88 z88
        obtain ⟨rfl, N88q, e88⟩ := hQ88
        have N88 := Fr.app N86 N88q
        refine own_go (U' := T88.setTop (mkF m 454 #[.val (.int p0), .val (.int p1), .val (.int p2), .val (.int y11), .val (.int y15), .val (.int y19), .val (.ref b28), .val (.int z81), .val (.int y109), .val (.int y256), .val (.int y269), .unset, .val (.int y406), .val (.int y419)] [(.int (f_3 y419))])) (fun _ k => st88 _ k) ?_
        have hc454_89 : ¬ ((f_3 y419) = (0 : Int32)) := own_cont (by omega) (by omega)
        refine own_go (U' := T88.setTop (mkF m 459 #[.val (.int p0), .val (.int p1), .val (.int p2), .val (.int y11), .val (.int y15), .val (.int y19), .val (.ref b28), .val (.int z81), .val (.int y109), .val (.int y256), .val (.int y269), .unset, .val (.int y406), .val (.int y419)] [])) (fun _ k => XS.ifYes X88.here hx rfl (pc0 := 454) (pc' := 459) rfl (hb hby at_454) rfl ((if0 _ _).trans (feq hc454_89).2) (by decide) (by decide) k) ?_
        refine own_go (U' := T88.setTop (mkF m 461 #[.val (.int p0), .val (.int p1), .val (.int p2), .val (.int y11), .val (.int y15), .val (.int y19), .val (.ref b28), .val (.int z81), .val (.int y109), .val (.int y256), .val (.int y269), .unset, .val (.int y406), .val (.int y419)] [(.int y256)])) (fun _ k => XS.iload X88.here hx rfl (hb hby at_459) rfl k) ?_
        refine own_go (U' := T88.setTop (mkF m 463 #[.val (.int p0), .val (.int p1), .val (.int p2), .val (.int y11), .val (.int y15), .val (.int y19), .val (.ref b28), .val (.int z81), .val (.int y109), .val (.int y256), .val (.int y269), .unset, .val (.int y406), .val (.int y419)] [(.int (7 : Int32)), (.int y256)])) (fun _ k => XS.bipush X88.here hx rfl (hb hby at_461) k) ?_
        refine own_go (U' := T88.setTop (mkF m 464 #[.val (.int p0), .val (.int p1), .val (.int p2), .val (.int y11), .val (.int y15), .val (.int y19), .val (.ref b28), .val (.int z81), .val (.int y109), .val (.int y256), .val (.int y269), .unset, .val (.int y406), .val (.int y419)] [(.int (y256 &&& (7 : Int32)))])) (fun _ k => XS.iand X88.here hx rfl (hb hby at_463) rfl k) ?_
        refine own_go (U' := T88.setTop (mkF m 466 #[.val (.int p0), .val (.int p1), .val (.int p2), .val (.int y11), .val (.int y15), .val (.int y19), .val (.ref b28), .val (.int z81), .val (.int y109), .val (.int y256), .val (.int y269), .unset, .val (.int y406), .val (.int y419)] [(.int (18 : Int32)), (.int (y256 &&& (7 : Int32)))])) (fun _ k => XS.bipush X88.here hx rfl (hb hby at_464) k) ?_
        refine own_go (U' := T88.setTop (mkF m 467 #[.val (.int p0), .val (.int p1), .val (.int p2), .val (.int y11), .val (.int y15), .val (.int y19), .val (.ref b28), .val (.int z81), .val (.int y109), .val (.int y256), .val (.int y269), .unset, .val (.int y406), .val (.int y419)] [(.int ((y256 &&& (7 : Int32)) <<< ((18 : Int32) &&& 31)))])) (fun _ k => XS.ishl X88.here hx rfl (hb hby at_466) rfl k) ?_
        refine own_go (U' := T88.setTop (mkF m 469 #[.val (.int p0), .val (.int p1), .val (.int p2), .val (.int y11), .val (.int y15), .val (.int y19), .val (.ref b28), .val (.int z81), .val (.int y109), .val (.int y256), .val (.int y269), .unset, .val (.int y406), .val (.int y419)] [(.int y269), (.int ((y256 &&& (7 : Int32)) <<< ((18 : Int32) &&& 31)))])) (fun _ k => XS.iload X88.here hx rfl (hb hby at_467) rfl k) ?_
        refine own_go (U' := T88.setTop (mkF m 471 #[.val (.int p0), .val (.int p1), .val (.int p2), .val (.int y11), .val (.int y15), .val (.int y19), .val (.ref b28), .val (.int z81), .val (.int y109), .val (.int y256), .val (.int y269), .unset, .val (.int y406), .val (.int y419)] [(.int (63 : Int32)), (.int y269), (.int ((y256 &&& (7 : Int32)) <<< ((18 : Int32) &&& 31)))])) (fun _ k => XS.bipush X88.here hx rfl (hb hby at_469) k) ?_
        refine own_go (U' := T88.setTop (mkF m 472 #[.val (.int p0), .val (.int p1), .val (.int p2), .val (.int y11), .val (.int y15), .val (.int y19), .val (.ref b28), .val (.int z81), .val (.int y109), .val (.int y256), .val (.int y269), .unset, .val (.int y406), .val (.int y419)] [(.int (y269 &&& (63 : Int32))), (.int ((y256 &&& (7 : Int32)) <<< ((18 : Int32) &&& 31)))])) (fun _ k => XS.iand X88.here hx rfl (hb hby at_471) rfl k) ?_
        refine own_go (U' := T88.setTop (mkF m 474 #[.val (.int p0), .val (.int p1), .val (.int p2), .val (.int y11), .val (.int y15), .val (.int y19), .val (.ref b28), .val (.int z81), .val (.int y109), .val (.int y256), .val (.int y269), .unset, .val (.int y406), .val (.int y419)] [(.int (12 : Int32)), (.int (y269 &&& (63 : Int32))), (.int ((y256 &&& (7 : Int32)) <<< ((18 : Int32) &&& 31)))])) (fun _ k => XS.bipush X88.here hx rfl (hb hby at_472) k) ?_
        refine own_go (U' := T88.setTop (mkF m 475 #[.val (.int p0), .val (.int p1), .val (.int p2), .val (.int y11), .val (.int y15), .val (.int y19), .val (.ref b28), .val (.int z81), .val (.int y109), .val (.int y256), .val (.int y269), .unset, .val (.int y406), .val (.int y419)] [(.int ((y269 &&& (63 : Int32)) <<< ((12 : Int32) &&& 31))), (.int ((y256 &&& (7 : Int32)) <<< ((18 : Int32) &&& 31)))])) (fun _ k => XS.ishl X88.here hx rfl (hb hby at_474) rfl k) ?_
        refine own_go (U' := T88.setTop (mkF m 476 #[.val (.int p0), .val (.int p1), .val (.int p2), .val (.int y11), .val (.int y15), .val (.int y19), .val (.ref b28), .val (.int z81), .val (.int y109), .val (.int y256), .val (.int y269), .unset, .val (.int y406), .val (.int y419)] [(.int (((y256 &&& (7 : Int32)) <<< ((18 : Int32) &&& 31)) ||| ((y269 &&& (63 : Int32)) <<< ((12 : Int32) &&& 31))))])) (fun _ k => XS.ior X88.here hx rfl (hb hby at_475) rfl k) ?_
        refine own_go (U' := T88.setTop (mkF m 478 #[.val (.int p0), .val (.int p1), .val (.int p2), .val (.int y11), .val (.int y15), .val (.int y19), .val (.ref b28), .val (.int z81), .val (.int y109), .val (.int y256), .val (.int y269), .unset, .val (.int y406), .val (.int y419)] [(.int y406), (.int (((y256 &&& (7 : Int32)) <<< ((18 : Int32) &&& 31)) ||| ((y269 &&& (63 : Int32)) <<< ((12 : Int32) &&& 31))))])) (fun _ k => XS.iload X88.here hx rfl (hb hby at_476) rfl k) ?_
        refine own_go (U' := T88.setTop (mkF m 480 #[.val (.int p0), .val (.int p1), .val (.int p2), .val (.int y11), .val (.int y15), .val (.int y19), .val (.ref b28), .val (.int z81), .val (.int y109), .val (.int y256), .val (.int y269), .unset, .val (.int y406), .val (.int y419)] [(.int (63 : Int32)), (.int y406), (.int (((y256 &&& (7 : Int32)) <<< ((18 : Int32) &&& 31)) ||| ((y269 &&& (63 : Int32)) <<< ((12 : Int32) &&& 31))))])) (fun _ k => XS.bipush X88.here hx rfl (hb hby at_478) k) ?_
        refine own_go (U' := T88.setTop (mkF m 481 #[.val (.int p0), .val (.int p1), .val (.int p2), .val (.int y11), .val (.int y15), .val (.int y19), .val (.ref b28), .val (.int z81), .val (.int y109), .val (.int y256), .val (.int y269), .unset, .val (.int y406), .val (.int y419)] [(.int (y406 &&& (63 : Int32))), (.int (((y256 &&& (7 : Int32)) <<< ((18 : Int32) &&& 31)) ||| ((y269 &&& (63 : Int32)) <<< ((12 : Int32) &&& 31))))])) (fun _ k => XS.iand X88.here hx rfl (hb hby at_480) rfl k) ?_
        refine own_go (U' := T88.setTop (mkF m 483 #[.val (.int p0), .val (.int p1), .val (.int p2), .val (.int y11), .val (.int y15), .val (.int y19), .val (.ref b28), .val (.int z81), .val (.int y109), .val (.int y256), .val (.int y269), .unset, .val (.int y406), .val (.int y419)] [(.int (6 : Int32)), (.int (y406 &&& (63 : Int32))), (.int (((y256 &&& (7 : Int32)) <<< ((18 : Int32) &&& 31)) ||| ((y269 &&& (63 : Int32)) <<< ((12 : Int32) &&& 31))))])) (fun _ k => XS.bipush X88.here hx rfl (hb hby at_481) k) ?_
        refine own_go (U' := T88.setTop (mkF m 484 #[.val (.int p0), .val (.int p1), .val (.int p2), .val (.int y11), .val (.int y15), .val (.int y19), .val (.ref b28), .val (.int z81), .val (.int y109), .val (.int y256), .val (.int y269), .unset, .val (.int y406), .val (.int y419)] [(.int ((y406 &&& (63 : Int32)) <<< ((6 : Int32) &&& 31))), (.int (((y256 &&& (7 : Int32)) <<< ((18 : Int32) &&& 31)) ||| ((y269 &&& (63 : Int32)) <<< ((12 : Int32) &&& 31))))])) (fun _ k => XS.ishl X88.here hx rfl (hb hby at_483) rfl k) ?_
        refine own_go (U' := T88.setTop (mkF m 485 #[.val (.int p0), .val (.int p1), .val (.int p2), .val (.int y11), .val (.int y15), .val (.int y19), .val (.ref b28), .val (.int z81), .val (.int y109), .val (.int y256), .val (.int y269), .unset, .val (.int y406), .val (.int y419)] [(.int ((((y256 &&& (7 : Int32)) <<< ((18 : Int32) &&& 31)) ||| ((y269 &&& (63 : Int32)) <<< ((12 : Int32) &&& 31))) ||| ((y406 &&& (63 : Int32)) <<< ((6 : Int32) &&& 31))))])) (fun _ k => XS.ior X88.here hx rfl (hb hby at_484) rfl k) ?_
        refine own_go (U' := T88.setTop (mkF m 487 #[.val (.int p0), .val (.int p1), .val (.int p2), .val (.int y11), .val (.int y15), .val (.int y19), .val (.ref b28), .val (.int z81), .val (.int y109), .val (.int y256), .val (.int y269), .unset, .val (.int y406), .val (.int y419)] [(.int y419), (.int ((((y256 &&& (7 : Int32)) <<< ((18 : Int32) &&& 31)) ||| ((y269 &&& (63 : Int32)) <<< ((12 : Int32) &&& 31))) ||| ((y406 &&& (63 : Int32)) <<< ((6 : Int32) &&& 31))))])) (fun _ k => XS.iload X88.here hx rfl (hb hby at_485) rfl k) ?_
        refine own_go (U' := T88.setTop (mkF m 489 #[.val (.int p0), .val (.int p1), .val (.int p2), .val (.int y11), .val (.int y15), .val (.int y19), .val (.ref b28), .val (.int z81), .val (.int y109), .val (.int y256), .val (.int y269), .unset, .val (.int y406), .val (.int y419)] [(.int (63 : Int32)), (.int y419), (.int ((((y256 &&& (7 : Int32)) <<< ((18 : Int32) &&& 31)) ||| ((y269 &&& (63 : Int32)) <<< ((12 : Int32) &&& 31))) ||| ((y406 &&& (63 : Int32)) <<< ((6 : Int32) &&& 31))))])) (fun _ k => XS.bipush X88.here hx rfl (hb hby at_487) k) ?_
        refine own_go (U' := T88.setTop (mkF m 490 #[.val (.int p0), .val (.int p1), .val (.int p2), .val (.int y11), .val (.int y15), .val (.int y19), .val (.ref b28), .val (.int z81), .val (.int y109), .val (.int y256), .val (.int y269), .unset, .val (.int y406), .val (.int y419)] [(.int (y419 &&& (63 : Int32))), (.int ((((y256 &&& (7 : Int32)) <<< ((18 : Int32) &&& 31)) ||| ((y269 &&& (63 : Int32)) <<< ((12 : Int32) &&& 31))) ||| ((y406 &&& (63 : Int32)) <<< ((6 : Int32) &&& 31))))])) (fun _ k => XS.iand X88.here hx rfl (hb hby at_489) rfl k) ?_
        refine own_go (U' := T88.setTop (mkF m 491 #[.val (.int p0), .val (.int p1), .val (.int p2), .val (.int y11), .val (.int y15), .val (.int y19), .val (.ref b28), .val (.int z81), .val (.int y109), .val (.int y256), .val (.int y269), .unset, .val (.int y406), .val (.int y419)] [(.int (((((y256 &&& (7 : Int32)) <<< ((18 : Int32) &&& 31)) ||| ((y269 &&& (63 : Int32)) <<< ((12 : Int32) &&& 31))) ||| ((y406 &&& (63 : Int32)) <<< ((6 : Int32) &&& 31))) ||| (y419 &&& (63 : Int32))))])) (fun _ k => XS.ior X88.here hx rfl (hb hby at_490) rfl k) ?_
        generalize hy491 : (((((y256 &&& (7 : Int32)) <<< ((18 : Int32) &&& 31)) ||| ((y269 &&& (63 : Int32)) <<< ((12 : Int32) &&& 31))) ||| ((y406 &&& (63 : Int32)) <<< ((6 : Int32) &&& 31))) ||| (y419 &&& (63 : Int32))) = y491
        refine own_go (U' := T88.setTop (mkF m 493 #[.val (.int p0), .val (.int p1), .val (.int p2), .val (.int y11), .val (.int y15), .val (.int y19), .val (.ref b28), .val (.int z81), .val (.int y109), .val (.int y256), .val (.int y269), .val (.int y491), .val (.int y406), .val (.int y419)] [])) (fun _ k => XS.istore X88.here hx rfl (hb hby at_491) rfl (l' := #[.val (.int p0), .val (.int p1), .val (.int p2), .val (.int y11), .val (.int y15), .val (.int y19), .val (.ref b28), .val (.int z81), .val (.int y109), .val (.int y256), .val (.int y269), .val (.int y491), .val (.int y406), .val (.int y419)]) rfl k) ?_
        refine own_go (U' := T88.setTop (mkF m 495 #[.val (.int p0), .val (.int p1), .val (.int p2), .val (.int y11), .val (.int y15), .val (.int y19), .val (.ref b28), .val (.int z81), .val (.int y109), .val (.int y256), .val (.int y269), .val (.int y491), .val (.int y406), .val (.int y419)] [(.int y491)])) (fun _ k => XS.iload X88.here hx rfl (hb hby at_493) rfl k) ?_
        refine own_go (U' := T88.setTop (mkF m 496 #[.val (.int p0), .val (.int p1), .val (.int p2), .val (.int y11), .val (.int y15), .val (.int y19), .val (.ref b28), .val (.int z81), .val (.int y109), .val (.int y256), .val (.int y269), .val (.int y491), .val (.int y406), .val (.int y419)] [(.int y11), (.int y491)])) (fun _ k => XS.iloadN X88.here hx rfl (hb hby at_495) rfl k) ?_
        have hc496_90 : y491 = y11 := hy491.symm.trans (own_v4 (by omega) hcp1 v0 v1 v2 v3)
        refine own_go (U' := T88.setTop (mkF m 499 #[.val (.int p0), .val (.int p1), .val (.int p2), .val (.int y11), .val (.int y15), .val (.int y19), .val (.ref b28), .val (.int z81), .val (.int y109), .val (.int y256), .val (.int y269), .val (.int y491), .val (.int y406), .val (.int y419)] [])) (fun _ k => XS.icmpNo X88.here hx rfl (hb hby at_496) rfl (teq hc496_90).2 k) ?_
        refine own_go (U' := T88.setTop (mkF m 500 #[.val (.int p0), .val (.int p1), .val (.int p2), .val (.int y11), .val (.int y15), .val (.int y19), .val (.ref b28), .val (.int z81), .val (.int y109), .val (.int y256), .val (.int y269), .val (.int y491), .val (.int y406), .val (.int y419)] [(.int (1 : Int32))])) (fun _ k => XS.iconst X88.here hx rfl (hb hby at_499) k) ?_
        refine own_go (U' := T88.setTop (mkF m 504 #[.val (.int p0), .val (.int p1), .val (.int p2), .val (.int y11), .val (.int y15), .val (.int y19), .val (.ref b28), .val (.int z81), .val (.int y109), .val (.int y256), .val (.int y269), .val (.int y491), .val (.int y406), .val (.int y419)] [(.int (1 : Int32))])) (fun _ k => XS.goto X88.here hx rfl (pc0 := 500) (pc' := 504) rfl (hb hby at_500) (by decide) (by decide) k) ?_
        refine own_ret X88 (v := (some (.int (1 : Int32)))) hlk (fun h => by rw [Bd.returns] at h; cases h) (by decide) (by decide) (fun fs hr => retN X88 hx (t := .boolean) Bd.returns (by simp) (hb hby at_504) hr) ?_
        show (Q0 Z p0 p1 p2 h0 n0) _ T88.heap _
        rw [e88]
        exact ⟨rfl, N88⟩
set_option maxRecDepth 65536 in
set_option maxHeartbeats 40000000 in
theorem comes_1 {Post : Tables → Env → Array Value → State → Outcome → State → Prop} (hpost : ∀ tb e args s v u, (limb_1_1.after args s (.returned v) u = true ∧ limb_1_2.after args s (.returned v) u = true ∧ True) → FrameEnd s (.returned v) u (Jvm.fieldLocs frame_1_writes args s ++ Jvm.arrayLocs frame_1_arrays args s ++ Jvm.staticLocs frame_1_statics s) 16 128 → Post tb e args s (.returned v) u) :
    ArmFor flags0 classFile x code maxLocals ret World_1 tables_1 room_1 Calls_1 rest_1 Pre_1 Post := by
  intro l hfl _ _ p e ha hc hk s m args below hf hA hF happ hP
  obtain ⟨hcalls, hrest, hpre⟩ := hP
  obtain ⟨-, -, -, hnamed, -, -, -, hat⟩ := (Spec.applies_iff hf).mp happ
  obtain ⟨hg, hn⟩ := and_e (Cond.before_iff.mp (show (Jvm.Cond.and given_1 narrow_1).before args s = true from hpre))
  obtain ⟨hcnt, hg0⟩ := and_e hg
  obtain ⟨hv0, hg1⟩ := and_e hg0
  obtain ⟨hv1, hg2⟩ := and_e hg1
  have hv2 := hg2
  obtain ⟨w0, w1, w2, rfl⟩ : ∃ w0 w1 w2 : Value, args = #[w0, w1, w2] := by
    have hs : args.size = 3 := by simpa [Cond.value, given_1] using hcnt
    obtain ⟨L⟩ := args
    match L, hs with
    | [w0, w1, w2], _ => exact ⟨w0, w1, w2, rfl⟩
  have hw := fun d (hd : d ∈ tables_1) => atoms_spec (ws := Jvm.Cond.code x code maxLocals ret :: tables_1) hat d (List.mem_cons_of_mem _ hd)
  have hfit : Fit s := fun {y c} hc i hi => by
    obtain ⟨ha, rfl⟩ := Array.getElem?_eq_some_iff.mp hc
    have q := List.all_eq_true.mp ((Array.all_eq_true_iff_forall_mem.mp hF) _ (Array.getElem_mem ha)) i (List.mem_range.mpr hi)
    simpa [Array.getElem?_eq_getElem hi] using q
  obtain ⟨i0, ei0⟩ := is_v hv0
  obtain rfl : w0 = (.int i0) := Option.some.inj ei0
  obtain ⟨i1, ei1⟩ := is_v hv1
  obtain rfl : w1 = (.int i1) := Option.some.inj ei1
  obtain ⟨i2, ei2⟩ := is_v hv2
  obtain rfl : w2 = (.int i2) := Option.some.inj ei2
  obtain ⟨n, o, h1, h2, h3, _, L, rfl, ⟨rfl, N⟩, hq⟩ := rm0 l s _ hw tables_1 i0 i1 i2 s.heap s.heap.size (Nat.le_refl _)  p e ha hc hk s m _ below hf ((Spec.applies_iff_loose hf).mp happ).1 ⟨rfl, State.Warmed39.refl s, rfl⟩ trivial
  refine ⟨n, _, h1, h2, h3, hpost _ _ _ _ _ _ ⟨Cond.after_iff.mpr rfl, Cond.after_iff.mpr (eq_i res_at (Term.int_eval (1)) rfl), trivial⟩ ⟨hq.1, hq.2.1, (hq.2.2.sift fun y hy => Or.inr (N y hy)).mono (by decide) (by decide)⟩⟩
theorem main_1_1 : Claimed_1_1 := comes_1 fun _ _ _ _ _ _ h hF => ⟨h.1, hF⟩
theorem main_1_2 : Claimed_1_2 := comes_1 fun _ _ _ _ _ _ h hF => ⟨h.2.1, hF⟩
end Jvm.Pilot.@@N@@
namespace Jvm.Pilot.@@N@@
open Jvm Jvm.ClassFile Sem Op Lib Jvm.Free Jvm.Stand Jvm.Pilot.@@N@@.Jvm.D
/-! MADE BY PROGRAM (witnessworld.py) out of the Statement's table words and the real class files: 9 classes; the members and pool entries that the words name. The judged class is class 1, her method 3. -/
namespace start1
open Jvm.ClassFile
def u (s : String) : CpInfo := .utf8 (stringToUtf16 s)
/-- a pool by its gaps: so many unusable entries, then the entry; so many at the end -/
def gap : Nat → List CpInfo → List CpInfo
  | 0, r => r
  | n + 1, r => .unusable :: gap n r
def poolList (es : List (Nat × CpInfo)) (last : Nat) : List CpInfo := es.foldr (fun e r => gap e.1 (e.2 :: r)) (gap last [])
def pool (es : List (Nat × CpInfo)) (last : Nat) : Array CpInfo := ⟨poolList es last⟩
def fileOf (pool : Array CpInfo) (this : Nat) (attrs : Array Attribute := #[]) (ms : Array MethodInfo := #[]) (fl : Nat := 33) (sup : Nat := 0) (ifs : Array Nat := #[]) (fds : Array FieldInfo := #[]) : ClassFile where
  minorVersion := 0
  majorVersion := 65
  constantPool := pool
  accessFlags := fl
  thisClass := this
  superClass := sup
  interfaces := ifs
  fields := fds
  methods := ms
  attributes := attrs
def plain (name : String) (sup : Option ClassId) : Class where
  name := name
  kind := .ordinary
  loader := none
  accessFlags := 33
  super := sup
  interfaces := #[]
  cf := none
  fields := #[]
  methods := #[]
  instanceTypes := #[]
  staticTypes := #[]
  resolved := #[]
  callSites := []
  init := .initialized
  statics := none
  mirror := none

def pool0 : Array CpInfo := pool [(5, u "<init>"), (0, u "()V"), (1, .class_ 10), (1, u "java/lang/Object")] 113

def k0m0 : Method := { name := "<init>", desc := "()V", sig := { parameters := [], returnType := none }, accessFlags := 1, code := none }
/-- java/lang/Object -/
def k0 : Class := { plain "java/lang/Object" none with
  accessFlags := 33
  interfaces := #[]
  cf := some (fileOf pool0 8 #[] #[{ accessFlags := 1, nameIndex := 5, descriptorIndex := 6, attributes := #[] }] 33 0 #[] #[])
  fields := #[]
  methods := #[k0m0]
  instanceTypes := #[]
  staticTypes := #[]
  resolved := Array.replicate 124 none
  statics := none }

def pool1 : Array CpInfo := pool [(2, .class_ 4), (1, u "java/lang/Object"), (0, u "<init>"), (0, u "()V"), (0, .integer 2147483647), (0, .integer 1113984), (0, .integer 65536), (0, .methodref 11 12), (0, .class_ 13), (0, .nameAndType 14 15), (0, u "com/example/eunomia/eunomia/Utf8Output"), (0, u "encode"), (0, u "(I[BI)I"), (0, .methodref 17 18), (0, .class_ 19), (0, .nameAndType 20 21), (0, u "com/example/eunomia/eunomia/Utf8OutputEncodePinLaw"), (0, u "untouched"), (0, u "([BIIIB)Z"), (0, .methodref 17 23), (0, .nameAndType 24 25), (0, u "cont"), (0, u "(I)Z"), (3, u "law"), (0, u "(III)Z")] 4

def k1m0 : Method := { name := "<init>", desc := "()V", sig := { parameters := [], returnType := none }, accessFlags := 1, code := none }
def k1c1 : Code := { maxStack := 3, maxLocals := 5, code := method_2_code, exceptionTable := #[], attributes := #[] }
def k1m1 : Method := { name := "untouched", desc := "([BIIIB)Z", sig := { parameters := [(.array .byte), .int, .int, .int, .byte], returnType := some .boolean }, accessFlags := 10, code := some k1c1 }
def k1c2 : Code := { maxStack := 2, maxLocals := 1, code := method_3_code, exceptionTable := #[], attributes := #[] }
def k1m2 : Method := { name := "cont", desc := "(I)Z", sig := { parameters := [.int], returnType := some .boolean }, accessFlags := 10, code := some k1c2 }
def k1c3 : Code := { maxStack := 5, maxLocals := 14, code := code, exceptionTable := #[], attributes := #[] }
def k1m3 : Method := { name := "law", desc := "(III)Z", sig := { parameters := [.int, .int, .int], returnType := some .boolean }, accessFlags := 9, code := some k1c3 }
/-- com/example/eunomia/eunomia/Utf8OutputEncodePinLaw -/
def k1 : Class := { plain "com/example/eunomia/eunomia/Utf8OutputEncodePinLaw" (some 0) with
  accessFlags := 49
  interfaces := #[]
  cf := some (fileOf pool1 17 #[] #[{ accessFlags := 1, nameIndex := 5, descriptorIndex := 6, attributes := #[] }, { accessFlags := 10, nameIndex := 20, descriptorIndex := 21, attributes := #[] }, { accessFlags := 10, nameIndex := 24, descriptorIndex := 25, attributes := #[] }, { accessFlags := 9, nameIndex := 29, descriptorIndex := 30, attributes := #[] }] 49 2 #[] #[])
  fields := #[]
  methods := #[k1m0, k1m1, k1m2, k1m3]
  instanceTypes := #[]
  staticTypes := #[]
  resolved := Array.replicate 35 none
  statics := none }

def pool2 : Array CpInfo := pool [(4, .class_ 6), (1, u "java/lang/Object"), (3, u "[B"), (1, .class_ 14), (1, u "com/example/eunomia/eunomia/Utf8Output"), (0, u "blocks"), (0, u "[[B"), (2, u "blockStarts"), (0, u "[I"), (2, u "regions"), (2, u "regionOffsets"), (2, u "runs"), (2, u "leftOut"), (8, u "bytes"), (14, u "runCount"), (0, u "I"), (2, u "blockCount"), (17, u "used"), (5, u "base"), (2, u "heldZeros"), (2, u "regionCount"), (2, u "regionsLength"), (2, u "leftOutCount"), (2, u "room"), (48, .integer 65536), (2, u "encode"), (0, u "(I[BI)I"), (71, u "COMMA"), (1, .class_ 228), (1, u "com/example/eunomia/eunomia/Utf8Output$Sink"), (9, u "ZEROS"), (60, u "MAX_LENGTH"), (1, u "BLOCK_LENGTH"), (0, u "MAX_WRITTEN_ZEROS")] 84

def k2c0 : Code := { maxStack := 5, maxLocals := 3, code := prog_30_method_14_code, exceptionTable := #[], attributes := #[] }
def k2m0 : Method := { name := "encode", desc := "(I[BI)I", sig := { parameters := [.int, (.array .byte), .int], returnType := some .int }, accessFlags := 8, code := some k2c0 }
/-- com/example/eunomia/eunomia/Utf8Output -/
def k2 : Class := { plain "com/example/eunomia/eunomia/Utf8Output" (some 0) with
  accessFlags := 32
  interfaces := #[]
  cf := some (fileOf pool2 12 #[.nestMembers #[226]] #[{ accessFlags := 8, nameIndex := 151, descriptorIndex := 152, attributes := #[] }] 32 4 #[] #[{ accessFlags := 24, nameIndex := 299, descriptorIndex := 57, attributes := #[] }, { accessFlags := 24, nameIndex := 301, descriptorIndex := 57, attributes := #[] }, { accessFlags := 26, nameIndex := 302, descriptorIndex := 57, attributes := #[] }, { accessFlags := 26, nameIndex := 238, descriptorIndex := 10, attributes := #[] }, { accessFlags := 26, nameIndex := 224, descriptorIndex := 10, attributes := #[] }, { accessFlags := 2, nameIndex := 41, descriptorIndex := 10, attributes := #[] }, { accessFlags := 2, nameIndex := 78, descriptorIndex := 57, attributes := #[] }, { accessFlags := 2, nameIndex := 84, descriptorIndex := 57, attributes := #[] }, { accessFlags := 2, nameIndex := 99, descriptorIndex := 57, attributes := #[] }, { accessFlags := 2, nameIndex := 15, descriptorIndex := 16, attributes := #[] }, { accessFlags := 2, nameIndex := 19, descriptorIndex := 20, attributes := #[] }, { accessFlags := 2, nameIndex := 60, descriptorIndex := 57, attributes := #[] }, { accessFlags := 2, nameIndex := 23, descriptorIndex := 20, attributes := #[] }, { accessFlags := 2, nameIndex := 93, descriptorIndex := 57, attributes := #[] }, { accessFlags := 2, nameIndex := 26, descriptorIndex := 20, attributes := #[] }, { accessFlags := 2, nameIndex := 90, descriptorIndex := 57, attributes := #[] }, { accessFlags := 2, nameIndex := 29, descriptorIndex := 20, attributes := #[] }, { accessFlags := 2, nameIndex := 56, descriptorIndex := 57, attributes := #[] }, { accessFlags := 2, nameIndex := 87, descriptorIndex := 57, attributes := #[] }, { accessFlags := 2, nameIndex := 32, descriptorIndex := 20, attributes := #[] }, { accessFlags := 2, nameIndex := 96, descriptorIndex := 57, attributes := #[] }])
  fields := #[{ name := "MAX_LENGTH", type := .int, accessFlags := 24, slot := 0, constantValue := 0 }, { name := "BLOCK_LENGTH", type := .int, accessFlags := 24, slot := 1, constantValue := 0 }, { name := "MAX_WRITTEN_ZEROS", type := .int, accessFlags := 26, slot := 2, constantValue := 0 }, { name := "ZEROS", type := (.array .byte), accessFlags := 26, slot := 3, constantValue := 0 }, { name := "COMMA", type := (.array .byte), accessFlags := 26, slot := 4, constantValue := 0 }, { name := "bytes", type := (.array .byte), accessFlags := 2, slot := 0, constantValue := 0 }, { name := "used", type := .int, accessFlags := 2, slot := 1, constantValue := 0 }, { name := "base", type := .int, accessFlags := 2, slot := 2, constantValue := 0 }, { name := "room", type := .int, accessFlags := 2, slot := 3, constantValue := 0 }, { name := "blocks", type := (.array (.array .byte)), accessFlags := 2, slot := 4, constantValue := 0 }, { name := "blockStarts", type := (.array .int), accessFlags := 2, slot := 5, constantValue := 0 }, { name := "blockCount", type := .int, accessFlags := 2, slot := 6, constantValue := 0 }, { name := "regions", type := (.array .int), accessFlags := 2, slot := 7, constantValue := 0 }, { name := "regionsLength", type := .int, accessFlags := 2, slot := 8, constantValue := 0 }, { name := "regionOffsets", type := (.array .int), accessFlags := 2, slot := 9, constantValue := 0 }, { name := "regionCount", type := .int, accessFlags := 2, slot := 10, constantValue := 0 }, { name := "runs", type := (.array .int), accessFlags := 2, slot := 11, constantValue := 0 }, { name := "runCount", type := .int, accessFlags := 2, slot := 12, constantValue := 0 }, { name := "heldZeros", type := .int, accessFlags := 2, slot := 13, constantValue := 0 }, { name := "leftOut", type := (.array .int), accessFlags := 2, slot := 14, constantValue := 0 }, { name := "leftOutCount", type := .int, accessFlags := 2, slot := 15, constantValue := 0 }]
  methods := #[k2m0]
  instanceTypes := #[(.array .byte), .int, .int, .int, (.array (.array .byte)), (.array .int), .int, (.array .int), .int, (.array .int), .int, (.array .int), .int, .int, (.array .int), .int]
  staticTypes := #[.int, .int, .int, (.array .byte), (.array .byte)]
  resolved := Array.replicate 387 none
  statics := none }

def pool3 : Array CpInfo := pool [(1, u "java/lang/Cloneable"), (0, .class_ 1), (0, u "java/lang/Object"), (0, .class_ 3)] 3

/-- java/lang/Cloneable -/
def k3 : Class := { plain "java/lang/Cloneable" (some 0) with
  accessFlags := 1537
  interfaces := #[]
  cf := some (fileOf pool3 2 #[] #[] 1537 4 #[] #[])
  fields := #[]
  methods := #[]
  instanceTypes := #[]
  staticTypes := #[]
  resolved := Array.replicate 8 none
  statics := none }

def pool4 : Array CpInfo := pool [(1, u "java/io/Serializable"), (0, .class_ 1), (0, u "java/lang/Object"), (0, .class_ 3)] 3

/-- java/io/Serializable -/
def k4 : Class := { plain "java/io/Serializable" (some 0) with
  accessFlags := 1537
  interfaces := #[]
  cf := some (fileOf pool4 2 #[] #[] 1537 4 #[] #[])
  fields := #[]
  methods := #[]
  instanceTypes := #[]
  staticTypes := #[]
  resolved := Array.replicate 8 none
  statics := none }

/-- the primitive byte -/
def k5 : Class := { plain "byte" none with kind := .primitive 'B', accessFlags := 0x411 }
/-- [B -/
def k6 : Class := { plain "[B" (some 0) with kind := .array 5 .byte, interfaces := #[3, 4], accessFlags := 1041 }

/-- the primitive int -/
def k7 : Class := { plain "int" none with kind := .primitive 'I', accessFlags := 0x411 }
/-- [I -/
def k8 : Class := { plain "[I" (some 0) with kind := .array 7 .int, interfaces := #[3, 4], accessFlags := 1041 }

def heap : Heap := #[]
def classes : Array Class := #[k0, k1, k2, k3, k4, k5, k6, k7, k8]
def interned : List (Array UInt16 × Addr) := []
def slotsUsed : Nat := 0
def theMethod : MethodId := ⟨1, 3⟩
def args0 : Array Value := #[.int 500, .int 2, .int 7]
def aboutOver (below : List Frame) : State where
  vm := { classes := classes, interned := interned.toArray }
  heap := heap
  slotsUsed := slotsUsed
  threads := #[{ frames := .invoking theMethod args0 :: below }]
def below0 : List Frame := [.native { method := ⟨0, 0⟩, args := #[] }]
def about1 : State := aboutOver below0
def p0 : Program := .bare "" "" ""
def e0 : Env := launch0.env 0 0 0
theorem w_frames : about1.frames = Frame.invoking theMethod args0 :: below0 := rfl
set_option maxRecDepth 65536 in
theorem w_args : argsFit about1.vm theMethod args0 = true := by decide +kernel
set_option maxRecDepth 65536 in
theorem w_heap : heapFits about1 = true := by decide +kernel
set_option maxRecDepth 65536 in
theorem w_runnable : about1.curStatus? = some .runnable := by decide +kernel
set_option maxRecDepth 65536 in
theorem w_alone : about1.alone = true := by decide +kernel
set_option maxRecDepth 65536 in
theorem w_named : about1.methodNamed? x = some theMethod := by decide +kernel
set_option maxRecDepth 65536 in
theorem w_hears : about1.hears theMethod below0 = true := by decide +kernel
set_option maxRecDepth 65536 in
theorem w_ripe : about1.ripe theMethod args0 below0 = true := by decide +kernel
theorem w_running : about1.status = .running := rfl
set_option maxRecDepth 65536 in
theorem w_room : about1.hasRoom e0.platform room_1 = true :=
  launch0.hasRoom_least _ room_1 (by decide +kernel) (by decide +kernel) (by decide +kernel) (by decide +kernel) (by decide +kernel) (by decide +kernel)
theorem allAtoms_all (ts : List Jvm.Cond) (a : Array Jvm.Value) (st : Jvm.State) : (allAtoms ts).before a st = ts.all (fun c => c.before a st) := by
  induction ts with
  | nil => rfl
  | cons c t ih =>
    show (Jvm.Cond.and c (allAtoms t)).before a st = _
    rw [Jvm.Cond.before_and, ih, List.all_cons]
def words1 : List Jvm.Cond := Jvm.Cond.code x code maxLocals ret :: tables_1
/-- a 'code' word, met by the world's own term for the bytes: nothing is compared byte by byte -/
theorem code_word {y : MethodName} {bytes : ByteArray} {mx : Nat} {rt : Option FieldType} {a : Array Value} {s : State} {m : MethodId} {meth : Method} {c : Code} (h1 : s.methodNamed? y = some m) (h2 : s.vm.method? m = some meth) (h3 : meth.code = some c) (h4 : c.code = bytes)
    (h5 : (c.maxLocals == mx && c.exceptionTable.isEmpty && decide (c.maxStack ≤ mostOperands) && decide (meth.sig.returnType = rt) && !meth.locks && decide (parseMethodDescriptor y.desc = some meth.sig)) = true) : (Jvm.Cond.code y bytes mx rt).before a s = true := by
  simp only [Bool.and_eq_true, beq_iff_eq, Bool.not_eq_true', decide_eq_true_eq] at h5
  obtain ⟨⟨⟨⟨⟨g1, g2⟩, g3⟩, g4⟩, g5⟩, g6⟩ := h5
  simp [Cond.before, Cond.holds, Cond.value, h1, h2, h3, h4, g1, g2, g3, g4, g5, g6]
def isCode : Jvm.Cond → Bool
  | .code _ _ _ _ => true
  | _ => false
theorem all_split {L : List Jvm.Cond} {P : Jvm.Cond → Bool} (h1 : L.all (fun c => isCode c || P c) = true) (h2 : ∀ c ∈ L.filter isCode, P c = true) : L.all P = true := by
  refine List.all_eq_true.mpr fun c hc => ?_
  have h := List.all_eq_true.mp h1 c hc
  rcases Bool.eq_false_or_eq_true (isCode c) with hi | hi
  · exact h2 c (List.mem_filter.mpr ⟨hc, hi⟩)
  · simpa [hi] using h
set_option maxRecDepth 65536 in
theorem w_c0 : (Jvm.Cond.code x code maxLocals ret).before args0 about1 = true := code_word (m := ⟨1, 3⟩) (meth := k1m3) (c := k1c3) (by decide +kernel) rfl rfl rfl (by decide +kernel)
set_option maxRecDepth 65536 in
theorem w_c1 : (Jvm.Cond.code ({ cls := "com/example/eunomia/eunomia/Utf8Output", name := "encode", desc := "(I[BI)I" } : Jvm.MethodName) prog_30_method_14_code (3 : Nat) (Option.some Jvm.ClassFile.FieldType.int)).before args0 about1 = true := code_word (m := ⟨2, 0⟩) (meth := k2m0) (c := k2c0) (by decide +kernel) rfl rfl rfl (by decide +kernel)
set_option maxRecDepth 65536 in
theorem w_c2 : (Jvm.Cond.code ({ cls := "com/example/eunomia/eunomia/Utf8OutputEncodePinLaw", name := "untouched", desc := "([BIIIB)Z" } : Jvm.MethodName) method_2_code (5 : Nat) (Option.some Jvm.ClassFile.FieldType.boolean)).before args0 about1 = true := code_word (m := ⟨1, 1⟩) (meth := k1m1) (c := k1c1) (by decide +kernel) rfl rfl rfl (by decide +kernel)
set_option maxRecDepth 65536 in
theorem w_c3 : (Jvm.Cond.code ({ cls := "com/example/eunomia/eunomia/Utf8OutputEncodePinLaw", name := "cont", desc := "(I)Z" } : Jvm.MethodName) method_3_code (1 : Nat) (Option.some Jvm.ClassFile.FieldType.boolean)).before args0 about1 = true := code_word (m := ⟨1, 2⟩) (meth := k1m2) (c := k1c2) (by decide +kernel) rfl rfl rfl (by decide +kernel)
def codes1 : List Jvm.Cond := [Jvm.Cond.code x code maxLocals ret, Jvm.Cond.code ({ cls := "com/example/eunomia/eunomia/Utf8Output", name := "encode", desc := "(I[BI)I" } : Jvm.MethodName) prog_30_method_14_code (3 : Nat) (Option.some Jvm.ClassFile.FieldType.int), Jvm.Cond.code ({ cls := "com/example/eunomia/eunomia/Utf8OutputEncodePinLaw", name := "untouched", desc := "([BIIIB)Z" } : Jvm.MethodName) method_2_code (5 : Nat) (Option.some Jvm.ClassFile.FieldType.boolean), Jvm.Cond.code ({ cls := "com/example/eunomia/eunomia/Utf8OutputEncodePinLaw", name := "cont", desc := "(I)Z" } : Jvm.MethodName) method_3_code (1 : Nat) (Option.some Jvm.ClassFile.FieldType.boolean)]
set_option maxRecDepth 65536 in
theorem codes_eq : words1.filter isCode = codes1 := rfl
theorem w_codes : ∀ c ∈ words1.filter isCode, c.before args0 about1 = true := by
  rw [codes_eq]
  intro c hc
  simp only [codes1, List.mem_cons, List.not_mem_nil, or_false] at hc
  rcases hc with rfl | rfl | rfl | rfl
  · exact w_c0
  · exact w_c1
  · exact w_c2
  · exact w_c3
set_option maxRecDepth 65536 in
theorem w_t1 : words1.all (fun c => isCode c || c.before args0 about1) = true := by decide +kernel
theorem w_tables : (allAtoms (Jvm.Cond.code x code maxLocals ret :: tables_1)).before args0 about1 = true := by
  rw [allAtoms_all]
  show words1.all (fun c => c.before args0 about1) = true
  refine all_split ?_ w_codes
  rw [w_t1]
set_option maxRecDepth 65536 in
theorem w_case : (Jvm.Cond.and given_1 narrow_1).before args0 about1 = true := by decide +kernel
theorem w_applies : (headSpec (Jvm.Cond.code x code maxLocals ret :: tables_1) room_1).applies x e0.platform about1 = true :=
  (Spec.applies_iff w_frames).mpr ⟨w_running, w_runnable, w_alone, w_named, w_hears, w_ripe, w_room, w_tables⟩
theorem atStart : AtStart classFile x code maxLocals ret World_1 tables_1 room_1 Calls_1 rest_1 Pre_1 launch0 p0 e0 about1 theMethod args0 below0 :=
  ⟨lists_1, trivial, launch0.admits_env _ _ _, launch0.least_env, fairChoices_fair.cas, fairChoices_fair.clock, w_frames, w_args, w_heap, w_applies, trivial, trivial, w_case⟩
end start1
theorem witness_1 : WitnessClaimed_1 := ⟨start1.p0, start1.e0, start1.about1, start1.theMethod, start1.args0, start1.below0, start1.atStart⟩
end Jvm.Pilot.@@N@@
