import JvmDerived
import JvmDerived.Pilot.@@N@@Statement
import JvmDerived.Pilot.@@N@@Code
set_option linter.unusedVariables false
set_option linter.unusedSimpArgs false
namespace Jvm.Pilot.@@N@@
open Jvm Jvm.ClassFile Sem Op Lib Jvm.Free Jvm.Stand Jvm.LawKit Jvm.RoadKit Bundle Jvm.Pilot.@@N@@.Jvm.D

section Own
variable {p : Program} {l : Launch} {e : Env} {R : Room} {s : State} {m : MethodId} {args : Array Value} {below : List Frame} {meth : Method} {c : Code} {T : State} {locs : List Loc} {cells slots : Nat} {Qo : Option Value → Heap → List Loc → Prop} {C N : Nat}
/-- the run goes on from U to a return that answers Qo -/
def own_Done (p : Program) (e : Env) (below : List Frame) (s : State) (Qo : Option Value → Heap → List Loc → Prop) (C N : Nat) (U : State) : Prop :=
  ∃ s₂ o, Steps p.tables e below U s₂ ∧ s₂.status = .running ∧ Ended s₂ below o ∧ (∃ v L, o = .returned v ∧ Qo v s₂.heap L ∧ FrameEnd s o s₂ L C N)
theorem own_go {U U' : State} (h : ∀ t, Steps p.tables e below U' t → Steps p.tables e below U t) (d : own_Done p e below s Qo C N U') : own_Done p e below s Qo C N U := by
  obtain ⟨s₂, o, h1, h2⟩ := d
  exact ⟨s₂, o, h _ h1, h2⟩
theorem own_join {U U' : State} (h : own_Done p e below s Qo C N U' → own_Done p e below s Qo C N U) (d : own_Done p e below s Qo C N U') : own_Done p e below s Qo C N U := h d
theorem own_sta_keep {Z : State} {h h' : Heap} {C n d : String} {v : Value} (F : Sta Z h C n d v) (K : Keep h h' []) : Sta Z h' C n d v := by
  obtain ⟨cf, i, k, f, st, cell, h1, h2, h3, h4, h5, r⟩ := F
  exact ⟨cf, i, k, f, st, cell, h1, h2, h3, h4, K.2.1 st cell h5 (fun q => nomatch q), r⟩
theorem own_at {c : Cell} {z j : Int32} {vs : List Value} {d v : Value} {i : Nat} (S : c.slots.size = z.toNatClampNeg) (H : Has c vs d) (q : ¬ j < 0 ∧ j < z) (hj : j.toNatClampNeg = i) (hv : vs.getD i d = v) : c.slots[j.toNatClampNeg]? = some v := by
  have h := inb_of S q
  rw [H _ (Nat.lt_of_not_le fun k => h (Or.inr k)), hj, hv]
/-- an array of ints, bytes, chars .. by what its places hold -/
def own_Arf (Z : State) (h : Heap) (a : Addr) (k : ClassId) (ty : FieldType) (n : Int32) (f : Int32 → Int32) : Prop :=
  ∃ c : Cell, Arr Z h a c ty ∧ c.cls = k ∧ c.slots.size = n.toNatClampNeg ∧ ¬ n < 0 ∧ ∀ j : Int32, ¬ j < 0 → j < n → c.slots[j.toNatClampNeg]? = some (.int (f j))
section Arf
variable {Z : State} {h h' : Heap} {a b : Addr} {k : ClassId} {ty : FieldType} {n : Int32} {f : Int32 → Int32}
theorem own_Arf.lt (F : own_Arf Z h a k ty n f) : a < h.size := by obtain ⟨c, A, -⟩ := F; exact A.lt
theorem own_Arf.ext (F : own_Arf Z h a k ty n f) (E : Ext h h') : own_Arf Z h' a k ty n f := by obtain ⟨c, A, r⟩ := F; exact ⟨c, A.ext E, r⟩
theorem own_Arf.other {sl : Nat} {v : Value} (F : own_Arf Z h b k ty n f) (W : Wr h h' a sl v) (q : b ≠ a) : own_Arf Z h' b k ty n f := by obtain ⟨c, A, r⟩ := F; exact ⟨c, A.other W q, r⟩
theorem own_Arf.keep {ws : List Addr} (F : own_Arf Z h a k ty n f) (K : Keep h h' ws) (q : a ∉ ws) : own_Arf Z h' a k ty n f := by obtain ⟨c, A, r⟩ := F; exact ⟨c, ⟨K.2.1 a c A.1 q, A.2⟩, r⟩
theorem own_Arf.new (A : Arr Z h a (newA k ty n) ty) (q : ¬ n < 0) (hd : defaultValue ty = .int 0) : own_Arf Z h a k ty n (fun _ => (0 : Int32)) :=
  ⟨_, A, rfl, sz_new _ _ _, q, fun j h1 h2 => by
    have h3 := inb_of (sz_new k ty n) (z := n) (j := j) ⟨h1, h2⟩
    rw [sz_new] at h3
    rw [get_new h3, hd]⟩
theorem own_Arf.set {c : Cell} {j v : Int32} (A : Arr Z h a c ty) (q1 : c.cls = k) (S : c.slots.size = n.toNatClampNeg) (q3 : ¬ n < 0) (H : ∀ j : Int32, ¬ j < 0 → j < n → c.slots[j.toNatClampNeg]? = some (.int (f j))) (hj : ¬ j < 0 ∧ j < n) (W : Wr h h' a j.toNatClampNeg (.int v)) :
    own_Arf Z h' a k ty n (fun i => if i = j then v else f i) :=
  ⟨c.setSlot j.toNatClampNeg (.int v), A.same W, q1, by rw [sz_set]; exact S, q3, fun i h1 h2 => by
    by_cases e : i = j
    · rw [get_hit (inb_of S hj) e]; simp only [if_pos e]
    · rw [get_miss hj.1 h1 e, H i h1 h2]; simp only [if_neg e]⟩
end Arf
theorem own_ret (X : Stand p l e R s m args below meth c T locs cells slots) {v : Option Value} {g : JFrame} (hlk : meth.locks = false) (hv : meth.sig.returnType = none → v = none) (hC : cells ≤ C) (hN : slots ≤ N)
    (st : ∀ fs, (∀ (f : JFrame) (acts : List Action), f.method = m → f.locked = none → f.entered = [] → (doReturn e (T.setTop f) acts v).1 = T.setFrames fs) → Steps p.tables e below (T.setTop g) (T.setFrames fs)) (hQ : Qo v T.heap locs) : own_Done p e below s Qo C N (T.setTop g) := by
  obtain ⟨fs, hr, hrun, hended, hW, hsame⟩ := X.leave (v := v) hv hlk
  exact ⟨_, _, st fs hr, hrun, hended, _, _, rfl, hQ, ⟨_, rfl⟩, hW, hsame.mono hC hN⟩
theorem own_retI (X : Stand p l e R s m args below meth c T locs cells slots) (hx : p.tables.exec = Jvm.exec) {pc : Nat} {Ls : Array Slot} {z : Int32} {rest : List Value} (hret : meth.sig.returnType = some .int) (hd : decode c.code pc = .ok (.ireturn, 1)) {fs : List Frame}
    (hl : ∀ (f : JFrame) (acts : List Action), f.method = m → f.locked = none → f.entered = [] → (doReturn e (T.setTop f) acts (some (.int z))).1 = T.setFrames fs) : Steps p.tables e below (T.setTop (mkF m pc Ls (.int z :: rest))) (T.setFrames fs) := by
  exact retOut X hx hret rfl (Or.inl ⟨rfl, Or.inl rfl, z, rfl⟩) hd hl
theorem own_retJ (X : Stand p l e R s m args below meth c T locs cells slots) (hx : p.tables.exec = Jvm.exec) {pc : Nat} {Ls : Array Slot} {z : Int64} {rest : List Value} (hret : meth.sig.returnType = some .long) (hd : decode c.code pc = .ok (.lreturn, 1)) {fs : List Frame}
    (hl : ∀ (f : JFrame) (acts : List Action), f.method = m → f.locked = none → f.entered = [] → (doReturn e (T.setTop f) acts (some (.long z))).1 = T.setFrames fs) : Steps p.tables e below (T.setTop (mkF m pc Ls (.long z :: rest))) (T.setFrames fs) := by
  exact retOut X hx hret rfl (Or.inr (Or.inl ⟨rfl, rfl, z, rfl⟩)) hd hl
theorem own_retR (X : Stand p l e R s m args below meth c T locs cells slots) (hx : p.tables.exec = Jvm.exec) {pc : Nat} {Ls : Array Slot} {w : Value} {t : FieldType} {rest : List Value} (hret : meth.sig.returnType = some t) (ht : t.isReference = true) (hw : w.isRef = true) (hn : narrow t w = w) (hd : decode c.code pc = .ok (.areturn, 1)) {fs : List Frame}
    (hl : ∀ (f : JFrame) (acts : List Action), f.method = m → f.locked = none → f.entered = [] → (doReturn e (T.setTop f) acts (some w)).1 = T.setFrames fs) : Steps p.tables e below (T.setTop (mkF m pc Ls (w :: rest))) (T.setFrames fs) := by
  exact retOut X hx hret hn (Or.inr (Or.inr (Or.inr (Or.inr ⟨rfl, ht, hw⟩)))) hd hl
/-- the same where Strings may be interned meanwhile -/
def own_DoneW (p : Program) (e : Env) (below : List Frame) (s : State) (Z : State) (EL : List (String × Nat)) (Qo : Option Value → Heap → List Loc → Prop) (C N : Nat) (U : State) : Prop :=
  ∃ s₂ o, Steps p.tables e below U s₂ ∧ s₂.status = .running ∧ Ended s₂ below o ∧ (∃ v L, o = .returned v ∧ Qo v s₂.heap L ∧ CHr Z EL s.vm s.heap s₂.vm s₂.heap ∧ ReturnedEndW s o s₂ L C N)
theorem own_goW {Z : State} {EL : List (String × Nat)} {U U' : State} (h : ∀ t, Steps p.tables e below U' t → Steps p.tables e below U t) (d : own_DoneW p e below s Z EL Qo C N U') : own_DoneW p e below s Z EL Qo C N U := by
  obtain ⟨s₂, o, h1, h2⟩ := d
  exact ⟨s₂, o, h _ h1, h2⟩
theorem own_joinW {Z : State} {EL : List (String × Nat)} {U U' : State} (h : own_DoneW p e below s Z EL Qo C N U' → own_DoneW p e below s Z EL Qo C N U) (d : own_DoneW p e below s Z EL Qo C N U') : own_DoneW p e below s Z EL Qo C N U := h d
theorem own_retW {Z : State} {EL : List (String × Nat)} {vm₁ : Vm} (X : Stand p l e R (s.setVm vm₁) m args below meth c T locs cells slots) {n : Nat} (hS : s.Since vm₁ n) (hn : n ≤ T.heap.size) (hC : CHr Z EL s.vm s.heap T.vm T.heap) {v : Option Value} {g : JFrame} (hlk : meth.locks = false) (hv : meth.sig.returnType = none → v = none) (hCc : cells ≤ C) (hN : slots ≤ N)
    (st : ∀ fs, (∀ (f : JFrame) (acts : List Action), f.method = m → f.locked = none → f.entered = [] → (doReturn e (T.setTop f) acts v).1 = T.setFrames fs) → Steps p.tables e below (T.setTop g) (T.setFrames fs)) (hQ : Qo v T.heap locs) : own_DoneW p e below s Z EL Qo C N (T.setTop g) := by
  obtain ⟨fs, hr, hrun, hended, hE⟩ := X.leaveW hS hn (v := v) hv hlk
  exact ⟨_, _, st fs hr, hrun, hended, _, _, rfl, hQ, hC, hE.1, hE.2.1, hE.2.2.1, hE.2.2.2.mono hCc hN⟩
end Own


theorem own_nlt {a b y : Int32} (h : ¬ a < y) (hab : ¬ b < a) : ¬ b < y := by
  simp only [Int32.lt_iff_toInt_lt] at *
  omega
theorem own_ltt {a b y : Int32} (h : b < y) (hab : ¬ b < a) : a < y := by
  simp only [Int32.lt_iff_toInt_lt] at *
  omega
theorem own_r6 {p y : Int32} (h : ((p &&& (2147483647 : Int32)) % (6 : Int32)) = y) : ¬ y < (0 : Int32) ∧ y < (6 : Int32) ∧ y.toNatClampNeg ≤ 5 := by
  have e : (p &&& (2147483647 : Int32)).toInt = p.toInt % 2147483648 := c_mask p _ 31 (by decide) (by decide)
  have q := (c_irem (p &&& (2147483647 : Int32)) (6 : Int32) 6 (by decide)).1 (by omega)
  rw [h] at q
  have k0 : (0 : Int32).toInt = 0 := by decide
  have k6 : (6 : Int32).toInt = 6 := by decide
  refine ⟨?_, ?_, ?_⟩
  · rw [Int32.lt_iff_toInt_lt, k0]; omega
  · rw [Int32.lt_iff_toInt_lt, k6]; omega
  · rw [Int32.toNatClampNeg]; omega
theorem own_in6 {j : Int32} (h : ¬ j < 0) (h2 : j < 6) : j = 0 ∨ j = 1 ∨ j = 2 ∨ j = 3 ∨ j = 4 ∨ j = 5 := by
  have k0 : (0 : Int32).toInt = 0 := by decide
  have k1 : (1 : Int32).toInt = 1 := by decide
  have k2 : (2 : Int32).toInt = 2 := by decide
  have k3 : (3 : Int32).toInt = 3 := by decide
  have k4 : (4 : Int32).toInt = 4 := by decide
  have k5 : (5 : Int32).toInt = 5 := by decide
  have k6 : (6 : Int32).toInt = 6 := by decide
  rw [Int32.lt_iff_toInt_lt, k0] at h
  rw [Int32.lt_iff_toInt_lt, k6] at h2
  simp only [← Int32.toInt_inj, k0, k1, k2, k3, k4, k5]
  omega

theorem d3_0 : decode method_2_code 0 = .ok (.iload_n 0, 1) := by decide +kernel
theorem d3_1 : decode method_2_code 1 = .ok (.iconst 1, 1) := by decide +kernel
theorem d3_2 : decode method_2_code 2 = .ok (.iand, 1) := by decide +kernel
theorem d3_3 : decode method_2_code 3 = .ok (.ifCond .ne 8, 3) := by decide +kernel
theorem d3_6 : decode method_2_code 6 = .ok (.bipush 10, 2) := by decide +kernel
theorem d3_8 : decode method_2_code 8 = .ok (.goto 7, 3) := by decide +kernel
theorem d3_15 : decode method_2_code 15 = .ok (.ireturn, 1) := by decide +kernel
theorem d3_11 : decode method_2_code 11 = .ok (.iload_n 0, 1) := by decide +kernel
theorem d3_12 : decode method_2_code 12 = .ok (.iconst 1, 1) := by decide +kernel
theorem d3_13 : decode method_2_code 13 = .ok (.ishr, 1) := by decide +kernel
theorem d3_14 : decode method_2_code 14 = .ok (.i2b, 1) := by decide +kernel
theorem own_pn0 : plainName "com/example/hashtory/hashtory/TextFieldsEndOfLinesPinLaw" = true := by first | (simp [plainName, overriddenIn]; done) | decide +kernel
theorem own_ef3 (m : MethodId) (x0 : Int32) : entryFrame m #[(.int x0)] 1 = mkF m 0 #[.val (.int x0)] [] := by first | (simp [entryFrame, mkF, argsToLocals, Value.category]; done) | rfl
def f_3 (p0 : Int32) : Int32 := (if (p0 &&& (1 : Int32)) = (0 : Int32) then (nar .byte (10 : Int32)) else (nar .byte ((p0 >>> ((1 : Int32) &&& 31)).toInt8.toInt32)))
def Q3 (Z : State) (p0 : Int32) (h0 : Heap) (n0 : Nat) (v : Option Value) (h : Heap) (L : List Loc) : Prop := v = some (.int (f_3 p0)) ∧ Fr n0 L ∧ h = h0
set_option maxRecDepth 65536 in
set_option maxHeartbeats 40000000 in
theorem rm3 (l : Launch) (Z : State) (aw : Array Value) (hw : ∀ d ∈ tables_1, d.before aw Z = true) (ws : List Jvm.Cond) (p0 : Int32) (h0 : Heap) (n0 : Nat) (Z0 : n0 ≤ h0.size) :
    MetFree l (⟨"com/example/hashtory/hashtory/TextFieldsEndOfLinesPinLaw", "draw", "(I)B"⟩ : MethodName) (head1 (Jvm.Cond.code (⟨"com/example/hashtory/hashtory/TextFieldsEndOfLinesPinLaw", "draw", "(I)B"⟩ : MethodName) method_2_code 1 (some .byte) :: ws) ({ frames := 0, cells := 0, slots := 0, locals := 0 } : Room)) (fun a U => a = #[(.int p0)] ∧ Z.Warmed39 U.vm ∧ U.heap = h0) (fun _ _ _ _ _ => True) (fun _ U o U' => ∃ v L, o = .returned v ∧ (Q3 Z p0 h0 n0) v U'.heap L ∧ FrameEnd U o U' L ({ frames := 0, cells := 0, slots := 0, locals := 0 } : Room).cells ({ frames := 0, cells := 0, slots := 0, locals := 0 } : Room).slots) := by
  refine MetFree.of_bodySF (plainFor_of_name own_pn0) hisR ?_
  intro p e s m args below meth c s₁ Bd hml0 hP hK
  obtain ⟨rfl, hZ, hh⟩ := hP
  have hx := Bd.exec
  have hby := Bd.bytes
  have hml : c.maxLocals = 1 := hml0
  have hown : s.vm.findClass "com/example/hashtory/hashtory/TextFieldsEndOfLinesPinLaw" = some m.cls := findClass_of_methodNamed Bd.named
  have hnm := (name_of_methodNamed Bd.named Bd.method).1
  have hlk : meth.locks = false := BodyLoose.notSynchronized (by assumption)
  have X0 : Stand p l e ({ frames := 0, cells := 0, slots := 0, locals := 0 } : Room) s m #[(.int p0)] below meth c s₁ [] 0 0 := Stand.of_body Bd
  have e0 : s₁.heap = h0 := by rw [← hh, Bd.state]; rfl
  have N0 := Fr.nil n0
  show own_Done p e below s (Q3 Z p0 h0 n0) ({ frames := 0, cells := 0, slots := 0, locals := 0 } : Room).cells ({ frames := 0, cells := 0, slots := 0, locals := 0 } : Room).slots (s₁.setTop (entryFrame m #[(.int p0)] 1))
  refine own_go (U' := s₁.setTop (mkF m 0 #[.val (.int p0)] [])) (fun _ k => castTop (own_ef3 m p0) k) ?_
  refine own_go (U' := s₁.setTop (mkF m 1 #[.val (.int p0)] [(.int p0)])) (fun _ k => XS.iloadN X0.here hx rfl (hb hby d3_0) rfl k) ?_
  refine own_go (U' := s₁.setTop (mkF m 2 #[.val (.int p0)] [(.int (1 : Int32)), (.int p0)])) (fun _ k => XS.iconst X0.here hx rfl (hb hby d3_1) k) ?_
  refine own_go (U' := s₁.setTop (mkF m 3 #[.val (.int p0)] [(.int (p0 &&& (1 : Int32)))])) (fun _ k => XS.iand X0.here hx rfl (hb hby d3_2) rfl k) ?_
  by_cases hc3_1 : (p0 &&& (1 : Int32)) = (0 : Int32)
  · refine own_go (U' := s₁.setTop (mkF m 6 #[.val (.int p0)] [])) (fun _ k => XS.ifNo X0.here hx rfl (hb hby d3_3) rfl ((if0 _ _).trans (teq hc3_1).2) k) ?_
    refine own_go (U' := s₁.setTop (mkF m 8 #[.val (.int p0)] [(.int (10 : Int32))])) (fun _ k => XS.bipush X0.here hx rfl (hb hby d3_6) k) ?_
    refine own_go (U' := s₁.setTop (mkF m 15 #[.val (.int p0)] [(.int (10 : Int32))])) (fun _ k => XS.goto X0.here hx rfl (pc0 := 8) (pc' := 15) rfl (hb hby d3_8) (by decide) (by decide) k) ?_
    refine own_ret X0 (v := (some (.int (nar .byte (10 : Int32))))) hlk (fun h => by rw [Bd.returns] at h; cases h) (by decide) (by decide) (fun fs hr => retN X0 hx (t := .byte) Bd.returns (by simp) (hb hby d3_15) hr) ?_
    show (Q3 Z p0 h0 n0) _ s₁.heap _
    rw [e0]
    exact ⟨by first | (simp only [f_3, if_pos hc3_1]; done) | rfl | (simp [f_3, if_pos hc3_1]; done), N0, rfl⟩
  · refine own_go (U' := s₁.setTop (mkF m 11 #[.val (.int p0)] [])) (fun _ k => XS.ifYes X0.here hx rfl (pc0 := 3) (pc' := 11) rfl (hb hby d3_3) rfl ((if0 _ _).trans (feq hc3_1).2) (by decide) (by decide) k) ?_
    refine own_go (U' := s₁.setTop (mkF m 12 #[.val (.int p0)] [(.int p0)])) (fun _ k => XS.iloadN X0.here hx rfl (hb hby d3_11) rfl k) ?_
    refine own_go (U' := s₁.setTop (mkF m 13 #[.val (.int p0)] [(.int (1 : Int32)), (.int p0)])) (fun _ k => XS.iconst X0.here hx rfl (hb hby d3_12) k) ?_
    refine own_go (U' := s₁.setTop (mkF m 14 #[.val (.int p0)] [(.int (p0 >>> ((1 : Int32) &&& 31)))])) (fun _ k => XS.ishr X0.here hx rfl (hb hby d3_13) rfl k) ?_
    refine own_go (U' := s₁.setTop (mkF m 15 #[.val (.int p0)] [(.int ((p0 >>> ((1 : Int32) &&& 31)).toInt8.toInt32))])) (fun _ k => XS.i2b X0.here hx rfl (hb hby d3_14) rfl k) ?_
    refine own_ret X0 (v := (some (.int (nar .byte ((p0 >>> ((1 : Int32) &&& 31)).toInt8.toInt32))))) hlk (fun h => by rw [Bd.returns] at h; cases h) (by decide) (by decide) (fun fs hr => retN X0 hx (t := .byte) Bd.returns (by simp) (hb hby d3_15) hr) ?_
    show (Q3 Z p0 h0 n0) _ s₁.heap _
    rw [e0]
    exact ⟨by first | (simp only [f_3, if_neg hc3_1]; done) | rfl | (simp [f_3, if_neg hc3_1]; done), N0, rfl⟩
theorem d1_0 : decode method_3_code 0 = .ok (.iload_n 1, 1) := by decide +kernel
theorem d1_1 : decode method_3_code 1 = .ok (.aload_n 0, 1) := by decide +kernel
theorem d1_2 : decode method_3_code 2 = .ok (.arraylength, 1) := by decide +kernel
theorem d1_3 : decode method_3_code 3 = .ok (.if_icmp .ge 15, 3) := by decide +kernel
theorem d1_6 : decode method_3_code 6 = .ok (.aload_n 0, 1) := by decide +kernel
theorem d1_7 : decode method_3_code 7 = .ok (.iload_n 1, 1) := by decide +kernel
theorem d1_8 : decode method_3_code 8 = .ok (.baload, 1) := by decide +kernel
theorem d1_9 : decode method_3_code 9 = .ok (.bipush 10, 2) := by decide +kernel
theorem d1_11 : decode method_3_code 11 = .ok (.if_icmp .ne 7, 3) := by decide +kernel
theorem d1_14 : decode method_3_code 14 = .ok (.iconst 1, 1) := by decide +kernel
theorem d1_15 : decode method_3_code 15 = .ok (.goto 4, 3) := by decide +kernel
theorem d1_19 : decode method_3_code 19 = .ok (.ireturn, 1) := by decide +kernel
theorem d1_18 : decode method_3_code 18 = .ok (.iconst 0, 1) := by decide +kernel
theorem own_ef1 (m : MethodId) (x0 : Addr) (x1 : Int32) : entryFrame m #[(.ref x0), (.int x1)] 2 = mkF m 0 #[.val (.ref x0), .val (.int x1)] [] := by first | (simp [entryFrame, mkF, argsToLocals, Value.category]; done) | rfl
def f_1 (a0 : Addr) (p1 : Int32) (k1 : ClassId) (z : Int32) (f : Int32 → Int32) : Int32 := (if p1 < z then (if (f p1) = (10 : Int32) then (1 : Int32) else (0 : Int32)) else (0 : Int32))
def Q1 (Z : State) (a0 : Addr) (p1 : Int32) (k1 : ClassId) (z : Int32) (f : Int32 → Int32) (h0 : Heap) (n0 : Nat) (v : Option Value) (h : Heap) (L : List Loc) : Prop := v = some (.int (f_1 a0 p1 k1 z f)) ∧ Fr n0 L ∧ h = h0
set_option maxRecDepth 65536 in
set_option maxHeartbeats 40000000 in
theorem rm1 (l : Launch) (Z : State) (aw : Array Value) (hw : ∀ d ∈ tables_1, d.before aw Z = true) (ws : List Jvm.Cond) (a0 : Addr) (p1 : Int32) (k1 : ClassId) (z : Int32) (f : Int32 → Int32) (h0 : Heap) (n0 : Nat) (Z0 : n0 ≤ h0.size) (V_a : own_Arf Z h0 a0 k1 .byte z f) (hi : ¬ (p1 < (0 : Int32))) :
    MetFree l (⟨"com/example/hashtory/hashtory/TextFieldsEndOfLinesPinLaw", "lf", "([BI)Z"⟩ : MethodName) (head1 (Jvm.Cond.code (⟨"com/example/hashtory/hashtory/TextFieldsEndOfLinesPinLaw", "lf", "([BI)Z"⟩ : MethodName) method_3_code 2 (some .boolean) :: ws) ({ frames := 0, cells := 0, slots := 0, locals := 0 } : Room)) (fun a U => a = #[(.ref a0), (.int p1)] ∧ Z.Warmed39 U.vm ∧ U.heap = h0) (fun _ _ _ _ _ => True) (fun _ U o U' => ∃ v L, o = .returned v ∧ (Q1 Z a0 p1 k1 z f h0 n0) v U'.heap L ∧ FrameEnd U o U' L ({ frames := 0, cells := 0, slots := 0, locals := 0 } : Room).cells ({ frames := 0, cells := 0, slots := 0, locals := 0 } : Room).slots) := by
  refine MetFree.of_bodySF (plainFor_of_name own_pn0) hisR ?_
  intro p e s m args below meth c s₁ Bd hml0 hP hK
  obtain ⟨rfl, hZ, hh⟩ := hP
  have hx := Bd.exec
  have hby := Bd.bytes
  have hml : c.maxLocals = 2 := hml0
  have hown : s.vm.findClass "com/example/hashtory/hashtory/TextFieldsEndOfLinesPinLaw" = some m.cls := findClass_of_methodNamed Bd.named
  have hnm := (name_of_methodNamed Bd.named Bd.method).1
  have hlk : meth.locks = false := BodyLoose.notSynchronized (by assumption)
  have X0 : Stand p l e ({ frames := 0, cells := 0, slots := 0, locals := 0 } : Room) s m #[(.ref a0), (.int p1)] below meth c s₁ [] 0 0 := Stand.of_body Bd
  have e0 : s₁.heap = h0 := by rw [← hh, Bd.state]; rfl
  have N0 := Fr.nil n0
  show own_Done p e below s (Q1 Z a0 p1 k1 z f h0 n0) ({ frames := 0, cells := 0, slots := 0, locals := 0 } : Room).cells ({ frames := 0, cells := 0, slots := 0, locals := 0 } : Room).slots (s₁.setTop (entryFrame m #[(.ref a0), (.int p1)] 2))
  refine own_go (U' := s₁.setTop (mkF m 0 #[.val (.ref a0), .val (.int p1)] [])) (fun _ k => castTop (own_ef1 m a0 p1) k) ?_
  refine own_go (U' := s₁.setTop (mkF m 1 #[.val (.ref a0), .val (.int p1)] [(.int p1)])) (fun _ k => XS.iloadN X0.here hx rfl (hb hby d1_0) rfl k) ?_
  refine own_go (U' := s₁.setTop (mkF m 2 #[.val (.ref a0), .val (.int p1)] [(.ref a0), (.int p1)])) (fun _ k => XS.aloadN X0.here hx rfl (hb hby d1_1) rfl rfl k) ?_
  have V2 := V_a
  obtain ⟨cl2, Ar2, q2, S2, Ng2, Hh2⟩ := V2
  have hl2 := len_of S2 Ng2
  refine own_go (U' := s₁.setTop (mkF m 3 #[.val (.ref a0), .val (.int p1)] [(.int z), (.int p1)])) (fun _ k => X0.arraylength hx (by rw [e0]; exact Ar2.1) (State.isArrayOf_alike hZ.alike Ar2.2.1) (g := (mkF m 2 #[.val (.ref a0), .val (.int p1)] [(.ref a0), (.int p1)])) rfl rfl (hb hby d1_2) _ (by rw [hl2]; exact k)) ?_
  by_cases hc3_3 : p1 < z
  · refine own_go (U' := s₁.setTop (mkF m 6 #[.val (.ref a0), .val (.int p1)] [])) (fun _ k => XS.icmpNo X0.here hx rfl (hb hby d1_3) rfl (tlt hc3_3).2.1 k) ?_
    refine own_go (U' := s₁.setTop (mkF m 7 #[.val (.ref a0), .val (.int p1)] [(.ref a0)])) (fun _ k => XS.aloadN X0.here hx rfl (hb hby d1_6) rfl rfl k) ?_
    refine own_go (U' := s₁.setTop (mkF m 8 #[.val (.ref a0), .val (.int p1)] [(.int p1), (.ref a0)])) (fun _ k => XS.iloadN X0.here hx rfl (hb hby d1_7) rfl k) ?_
    have V4 := V_a
    obtain ⟨cl4, Ar4, q4, S4, Ng4, Hh4⟩ := V4
    have hj4 : ¬ p1 < 0 ∧ p1 < z := ⟨hi, hc3_3⟩
    have hat4 := Hh4 _ hj4.1 hj4.2
    refine own_go (U' := s₁.setTop (mkF m 9 #[.val (.ref a0), .val (.int p1)] [(.int (f p1))])) (fun _ k => X0.baloadBytes hx (j := p1) (v := (.int (f p1))) (by rw [e0]; exact Ar4.1) (State.isArrayOf_alike hZ.alike Ar4.2.1) Ar4.2.2 (inb_of S4 hj4) hat4 (g := (mkF m 8 #[.val (.ref a0), .val (.int p1)] [(.int p1), (.ref a0)])) rfl rfl (hb hby d1_8) _ k) ?_
    refine own_go (U' := s₁.setTop (mkF m 11 #[.val (.ref a0), .val (.int p1)] [(.int (10 : Int32)), (.int (f p1))])) (fun _ k => XS.bipush X0.here hx rfl (hb hby d1_9) k) ?_
    by_cases hc11_5 : (f p1) = (10 : Int32)
    · refine own_go (U' := s₁.setTop (mkF m 14 #[.val (.ref a0), .val (.int p1)] [])) (fun _ k => XS.icmpNo X0.here hx rfl (hb hby d1_11) rfl (teq hc11_5).2 k) ?_
      refine own_go (U' := s₁.setTop (mkF m 15 #[.val (.ref a0), .val (.int p1)] [(.int (1 : Int32))])) (fun _ k => XS.iconst X0.here hx rfl (hb hby d1_14) k) ?_
      refine own_go (U' := s₁.setTop (mkF m 19 #[.val (.ref a0), .val (.int p1)] [(.int (1 : Int32))])) (fun _ k => XS.goto X0.here hx rfl (pc0 := 15) (pc' := 19) rfl (hb hby d1_15) (by decide) (by decide) k) ?_
      refine own_ret X0 (v := (some (.int (1 : Int32)))) hlk (fun h => by rw [Bd.returns] at h; cases h) (by decide) (by decide) (fun fs hr => retN X0 hx (t := .boolean) Bd.returns (by simp) (hb hby d1_19) hr) ?_
      show (Q1 Z a0 p1 k1 z f h0 n0) _ s₁.heap _
      rw [e0]
      exact ⟨by first | (simp only [f_1, if_pos hc3_3, if_pos hc11_5]; done) | rfl | (simp [f_1, if_pos hc3_3, if_pos hc11_5]; done), N0, rfl⟩
    · refine own_go (U' := s₁.setTop (mkF m 18 #[.val (.ref a0), .val (.int p1)] [])) (fun _ k => XS.icmpYes X0.here hx rfl (pc0 := 11) (pc' := 18) rfl (hb hby d1_11) rfl (feq hc11_5).2 (by decide) (by decide) k) ?_
      refine own_go (U' := s₁.setTop (mkF m 19 #[.val (.ref a0), .val (.int p1)] [(.int (0 : Int32))])) (fun _ k => XS.iconst X0.here hx rfl (hb hby d1_18) k) ?_
      refine own_ret X0 (v := (some (.int (0 : Int32)))) hlk (fun h => by rw [Bd.returns] at h; cases h) (by decide) (by decide) (fun fs hr => retN X0 hx (t := .boolean) Bd.returns (by simp) (hb hby d1_19) hr) ?_
      show (Q1 Z a0 p1 k1 z f h0 n0) _ s₁.heap _
      rw [e0]
      exact ⟨by first | (simp only [f_1, if_pos hc3_3, if_neg hc11_5]; done) | rfl | (simp [f_1, if_pos hc3_3, if_neg hc11_5]; done), N0, rfl⟩
  · refine own_go (U' := s₁.setTop (mkF m 18 #[.val (.ref a0), .val (.int p1)] [])) (fun _ k => XS.icmpYes X0.here hx rfl (pc0 := 3) (pc' := 18) rfl (hb hby d1_3) rfl (flt hc3_3).2.1 (by decide) (by decide) k) ?_
    refine own_go (U' := s₁.setTop (mkF m 19 #[.val (.ref a0), .val (.int p1)] [(.int (0 : Int32))])) (fun _ k => XS.iconst X0.here hx rfl (hb hby d1_18) k) ?_
    refine own_ret X0 (v := (some (.int (0 : Int32)))) hlk (fun h => by rw [Bd.returns] at h; cases h) (by decide) (by decide) (fun fs hr => retN X0 hx (t := .boolean) Bd.returns (by simp) (hb hby d1_19) hr) ?_
    show (Q1 Z a0 p1 k1 z f h0 n0) _ s₁.heap _
    rw [e0]
    exact ⟨by first | (simp only [f_1, if_neg hc3_3]; done) | rfl | (simp [f_1, if_neg hc3_3]; done), N0, rfl⟩

theorem own_n5 {z : Int32} (h : z < 6) : ¬ (5 : Int32) < z := by
  have k5 : (5 : Int32).toInt = 5 := by decide
  have k6 : (6 : Int32).toInt = 6 := by decide
  rw [Int32.lt_iff_toInt_lt, k6] at h
  rw [Int32.lt_iff_toInt_lt, k5]
  omega

theorem d2_0 : decode prog_17_method_4_code 0 = .ok (.iconst 1, 1) := by decide +kernel
theorem d2_1 : decode prog_17_method_4_code 1 = .ok (.istore_n 1, 1) := by decide +kernel
theorem d2_2 : decode prog_17_method_4_code 2 = .ok (.iload_n 1, 1) := by decide +kernel
theorem d2_3 : decode prog_17_method_4_code 3 = .ok (.aload_n 0, 1) := by decide +kernel
theorem d2_4 : decode prog_17_method_4_code 4 = .ok (.arraylength, 1) := by decide +kernel
theorem d2_5 : decode prog_17_method_4_code 5 = .ok (.if_icmp .ge 29, 3) := by decide +kernel
theorem d2_8 : decode prog_17_method_4_code 8 = .ok (.aload_n 0, 1) := by decide +kernel
theorem d2_9 : decode prog_17_method_4_code 9 = .ok (.iload_n 1, 1) := by decide +kernel
theorem d2_10 : decode prog_17_method_4_code 10 = .ok (.baload, 1) := by decide +kernel
theorem d2_11 : decode prog_17_method_4_code 11 = .ok (.bipush 10, 2) := by decide +kernel
theorem d2_13 : decode prog_17_method_4_code 13 = .ok (.if_icmp .ne 15, 3) := by decide +kernel
theorem d2_16 : decode prog_17_method_4_code 16 = .ok (.aload_n 0, 1) := by decide +kernel
theorem d2_17 : decode prog_17_method_4_code 17 = .ok (.iload_n 1, 1) := by decide +kernel
theorem d2_18 : decode prog_17_method_4_code 18 = .ok (.iconst 1, 1) := by decide +kernel
theorem d2_19 : decode prog_17_method_4_code 19 = .ok (.isub, 1) := by decide +kernel
theorem d2_20 : decode prog_17_method_4_code 20 = .ok (.baload, 1) := by decide +kernel
theorem d2_21 : decode prog_17_method_4_code 21 = .ok (.bipush 10, 2) := by decide +kernel
theorem d2_23 : decode prog_17_method_4_code 23 = .ok (.if_icmp .ne 5, 3) := by decide +kernel
theorem d2_26 : decode prog_17_method_4_code 26 = .ok (.iload_n 1, 1) := by decide +kernel
theorem d2_27 : decode prog_17_method_4_code 27 = .ok (.ireturn, 1) := by decide +kernel
theorem d2_28 : decode prog_17_method_4_code 28 = .ok (.iinc 1 1, 3) := by decide +kernel
theorem d2_31 : decode prog_17_method_4_code 31 = .ok (.goto (-29), 3) := by decide +kernel
theorem d2_34 : decode prog_17_method_4_code 34 = .ok (.iconst (-1), 1) := by decide +kernel
theorem d2_35 : decode prog_17_method_4_code 35 = .ok (.ireturn, 1) := by decide +kernel
theorem own_pn1 : plainName "com/example/hashtory/hashtory/TextFields" = true := by first | (simp [plainName, overriddenIn]; done) | decide +kernel
theorem own_ef2 (m : MethodId) (x0 : Addr) : entryFrame m #[(.ref x0)] 2 = mkF m 0 #[.val (.ref x0), .unset] [] := by first | (simp [entryFrame, mkF, argsToLocals, Value.category]; done) | rfl
def f_2 (a0 : Addr) (k1 : ClassId) (z : Int32) (f : Int32 → Int32) : Int32 := (if (1 : Int32) < z then (if (f (1 : Int32)) = (10 : Int32) then (if (f (0 : Int32)) = (10 : Int32) then (1 : Int32) else (if (2 : Int32) < z then (if (f (2 : Int32)) = (10 : Int32) then (2 : Int32) else (if (3 : Int32) < z then (if (f (3 : Int32)) = (10 : Int32) then (if (4 : Int32) < z then (if (f (4 : Int32)) = (10 : Int32) then (4 : Int32) else (-1 : Int32)) else (-1 : Int32)) else (if (4 : Int32) < z then (if (f (4 : Int32)) = (10 : Int32) then (-1 : Int32) else (-1 : Int32)) else (-1 : Int32))) else (-1 : Int32))) else (-1 : Int32))) else (if (2 : Int32) < z then (if (f (2 : Int32)) = (10 : Int32) then (if (3 : Int32) < z then (if (f (3 : Int32)) = (10 : Int32) then (3 : Int32) else (if (4 : Int32) < z then (if (f (4 : Int32)) = (10 : Int32) then (-1 : Int32) else (-1 : Int32)) else (-1 : Int32))) else (-1 : Int32)) else (if (3 : Int32) < z then (if (f (3 : Int32)) = (10 : Int32) then (if (4 : Int32) < z then (if (f (4 : Int32)) = (10 : Int32) then (4 : Int32) else (-1 : Int32)) else (-1 : Int32)) else (if (4 : Int32) < z then (if (f (4 : Int32)) = (10 : Int32) then (-1 : Int32) else (-1 : Int32)) else (-1 : Int32))) else (-1 : Int32))) else (-1 : Int32))) else (-1 : Int32))
def Q2 (Z : State) (a0 : Addr) (k1 : ClassId) (z : Int32) (f : Int32 → Int32) (h0 : Heap) (n0 : Nat) (v : Option Value) (h : Heap) (L : List Loc) : Prop := v = some (.int (f_2 a0 k1 z f)) ∧ Fr n0 L ∧ h = h0
set_option maxRecDepth 65536 in
set_option maxHeartbeats 40000000 in
theorem rm2 (l : Launch) (Z : State) (aw : Array Value) (hw : ∀ d ∈ tables_1, d.before aw Z = true) (ws : List Jvm.Cond) (a0 : Addr) (k1 : ClassId) (z : Int32) (f : Int32 → Int32) (h0 : Heap) (n0 : Nat) (Z0 : n0 ≤ h0.size) (V_a : own_Arf Z h0 a0 k1 .byte z f) (h6 : z < (6 : Int32)) :
    MetFree l (⟨"com/example/hashtory/hashtory/TextFields", "endOfLines", "([B)I"⟩ : MethodName) (head1 (Jvm.Cond.code (⟨"com/example/hashtory/hashtory/TextFields", "endOfLines", "([B)I"⟩ : MethodName) prog_17_method_4_code 2 (some .int) :: ws) ({ frames := 0, cells := 0, slots := 0, locals := 0 } : Room)) (fun a U => a = #[(.ref a0)] ∧ Z.Warmed39 U.vm ∧ U.heap = h0) (fun _ _ _ _ _ => True) (fun _ U o U' => ∃ v L, o = .returned v ∧ (Q2 Z a0 k1 z f h0 n0) v U'.heap L ∧ FrameEnd U o U' L ({ frames := 0, cells := 0, slots := 0, locals := 0 } : Room).cells ({ frames := 0, cells := 0, slots := 0, locals := 0 } : Room).slots) := by
  refine MetFree.of_bodySF (plainFor_of_name own_pn1) hisR ?_
  intro p e s m args below meth c s₁ Bd hml0 hP hK
  obtain ⟨rfl, hZ, hh⟩ := hP
  have hx := Bd.exec
  have hby := Bd.bytes
  have hml : c.maxLocals = 2 := hml0
  have hown : s.vm.findClass "com/example/hashtory/hashtory/TextFields" = some m.cls := findClass_of_methodNamed Bd.named
  have hnm := (name_of_methodNamed Bd.named Bd.method).1
  have hlk : meth.locks = false := BodyLoose.notSynchronized (by assumption)
  have X0 : Stand p l e ({ frames := 0, cells := 0, slots := 0, locals := 0 } : Room) s m #[(.ref a0)] below meth c s₁ [] 0 0 := Stand.of_body Bd
  have e0 : s₁.heap = h0 := by rw [← hh, Bd.state]; rfl
  have N0 := Fr.nil n0
  show own_Done p e below s (Q2 Z a0 k1 z f h0 n0) ({ frames := 0, cells := 0, slots := 0, locals := 0 } : Room).cells ({ frames := 0, cells := 0, slots := 0, locals := 0 } : Room).slots (s₁.setTop (entryFrame m #[(.ref a0)] 2))
  refine own_go (U' := s₁.setTop (mkF m 0 #[.val (.ref a0), .unset] [])) (fun _ k => castTop (own_ef2 m a0) k) ?_
  refine own_go (U' := s₁.setTop (mkF m 1 #[.val (.ref a0), .unset] [(.int (1 : Int32))])) (fun _ k => XS.iconst X0.here hx rfl (hb hby d2_0) k) ?_
  refine own_go (U' := s₁.setTop (mkF m 2 #[.val (.ref a0), .val (.int (1 : Int32))] [])) (fun _ k => XS.istoreN X0.here hx rfl (hb hby d2_1) rfl (l' := #[.val (.ref a0), .val (.int (1 : Int32))]) rfl k) ?_
  refine own_go (U' := s₁.setTop (mkF m 3 #[.val (.ref a0), .val (.int (1 : Int32))] [(.int (1 : Int32))])) (fun _ k => XS.iloadN X0.here hx rfl (hb hby d2_2) rfl k) ?_
  refine own_go (U' := s₁.setTop (mkF m 4 #[.val (.ref a0), .val (.int (1 : Int32))] [(.ref a0), (.int (1 : Int32))])) (fun _ k => XS.aloadN X0.here hx rfl (hb hby d2_3) rfl rfl k) ?_
  have V6 := V_a
  obtain ⟨cl6, Ar6, q6, S6, Ng6, Hh6⟩ := V6
  have hl6 := len_of S6 Ng6
  refine own_go (U' := s₁.setTop (mkF m 5 #[.val (.ref a0), .val (.int (1 : Int32))] [(.int z), (.int (1 : Int32))])) (fun _ k => X0.arraylength hx (by rw [e0]; exact Ar6.1) (State.isArrayOf_alike hZ.alike Ar6.2.1) (g := (mkF m 4 #[.val (.ref a0), .val (.int (1 : Int32))] [(.ref a0), (.int (1 : Int32))])) rfl rfl (hb hby d2_4) _ (by rw [hl6]; exact k)) ?_
  by_cases hc5_7 : (1 : Int32) < z
  · refine own_go (U' := s₁.setTop (mkF m 8 #[.val (.ref a0), .val (.int (1 : Int32))] [])) (fun _ k => XS.icmpNo X0.here hx rfl (hb hby d2_5) rfl (tlt hc5_7).2.1 k) ?_
    refine own_go (U' := s₁.setTop (mkF m 9 #[.val (.ref a0), .val (.int (1 : Int32))] [(.ref a0)])) (fun _ k => XS.aloadN X0.here hx rfl (hb hby d2_8) rfl rfl k) ?_
    refine own_go (U' := s₁.setTop (mkF m 10 #[.val (.ref a0), .val (.int (1 : Int32))] [(.int (1 : Int32)), (.ref a0)])) (fun _ k => XS.iloadN X0.here hx rfl (hb hby d2_9) rfl k) ?_
    have V8 := V_a
    obtain ⟨cl8, Ar8, q8, S8, Ng8, Hh8⟩ := V8
    have hj8 : ¬ (1 : Int32) < 0 ∧ (1 : Int32) < z := ⟨by decide, hc5_7⟩
    have hat8 := Hh8 _ hj8.1 hj8.2
    refine own_go (U' := s₁.setTop (mkF m 11 #[.val (.ref a0), .val (.int (1 : Int32))] [(.int (f (1 : Int32)))])) (fun _ k => X0.baloadBytes hx (j := (1 : Int32)) (v := (.int (f (1 : Int32)))) (by rw [e0]; exact Ar8.1) (State.isArrayOf_alike hZ.alike Ar8.2.1) Ar8.2.2 (inb_of S8 hj8) hat8 (g := (mkF m 10 #[.val (.ref a0), .val (.int (1 : Int32))] [(.int (1 : Int32)), (.ref a0)])) rfl rfl (hb hby d2_10) _ k) ?_
    refine own_go (U' := s₁.setTop (mkF m 13 #[.val (.ref a0), .val (.int (1 : Int32))] [(.int (10 : Int32)), (.int (f (1 : Int32)))])) (fun _ k => XS.bipush X0.here hx rfl (hb hby d2_11) k) ?_
    by_cases hc13_9 : (f (1 : Int32)) = (10 : Int32)
    · refine own_go (U' := s₁.setTop (mkF m 16 #[.val (.ref a0), .val (.int (1 : Int32))] [])) (fun _ k => XS.icmpNo X0.here hx rfl (hb hby d2_13) rfl (teq hc13_9).2 k) ?_
      refine own_go (U' := s₁.setTop (mkF m 17 #[.val (.ref a0), .val (.int (1 : Int32))] [(.ref a0)])) (fun _ k => XS.aloadN X0.here hx rfl (hb hby d2_16) rfl rfl k) ?_
      refine own_go (U' := s₁.setTop (mkF m 18 #[.val (.ref a0), .val (.int (1 : Int32))] [(.int (1 : Int32)), (.ref a0)])) (fun _ k => XS.iloadN X0.here hx rfl (hb hby d2_17) rfl k) ?_
      refine own_go (U' := s₁.setTop (mkF m 19 #[.val (.ref a0), .val (.int (1 : Int32))] [(.int (1 : Int32)), (.int (1 : Int32)), (.ref a0)])) (fun _ k => XS.iconst X0.here hx rfl (hb hby d2_18) k) ?_
      refine own_go (U' := s₁.setTop (mkF m 20 #[.val (.ref a0), .val (.int (1 : Int32))] [(.int (0 : Int32)), (.ref a0)])) (fun _ k => XS.isub X0.here hx rfl (hb hby d2_19) rfl k) ?_
      have V10 := V_a
      obtain ⟨cl10, Ar10, q10, S10, Ng10, Hh10⟩ := V10
      have hj10 : ¬ (0 : Int32) < 0 ∧ (0 : Int32) < z := ⟨by decide, own_ltt hc5_7 (by decide)⟩
      have hat10 := Hh10 _ hj10.1 hj10.2
      refine own_go (U' := s₁.setTop (mkF m 21 #[.val (.ref a0), .val (.int (1 : Int32))] [(.int (f (0 : Int32)))])) (fun _ k => X0.baloadBytes hx (j := (0 : Int32)) (v := (.int (f (0 : Int32)))) (by rw [e0]; exact Ar10.1) (State.isArrayOf_alike hZ.alike Ar10.2.1) Ar10.2.2 (inb_of S10 hj10) hat10 (g := (mkF m 20 #[.val (.ref a0), .val (.int (1 : Int32))] [(.int (0 : Int32)), (.ref a0)])) rfl rfl (hb hby d2_20) _ k) ?_
      refine own_go (U' := s₁.setTop (mkF m 23 #[.val (.ref a0), .val (.int (1 : Int32))] [(.int (10 : Int32)), (.int (f (0 : Int32)))])) (fun _ k => XS.bipush X0.here hx rfl (hb hby d2_21) k) ?_
      by_cases hc23_11 : (f (0 : Int32)) = (10 : Int32)
      · refine own_go (U' := s₁.setTop (mkF m 26 #[.val (.ref a0), .val (.int (1 : Int32))] [])) (fun _ k => XS.icmpNo X0.here hx rfl (hb hby d2_23) rfl (teq hc23_11).2 k) ?_
        refine own_go (U' := s₁.setTop (mkF m 27 #[.val (.ref a0), .val (.int (1 : Int32))] [(.int (1 : Int32))])) (fun _ k => XS.iloadN X0.here hx rfl (hb hby d2_26) rfl k) ?_
        refine own_ret X0 (v := (some (.int (1 : Int32)))) hlk (fun h => by rw [Bd.returns] at h; cases h) (by decide) (by decide) (fun fs hr => own_retI X0 hx Bd.returns (hb hby d2_27) hr) ?_
        show (Q2 Z a0 k1 z f h0 n0) _ s₁.heap _
        rw [e0]
        exact ⟨by first | (simp only [f_2, if_pos hc5_7, if_pos hc13_9, if_pos hc23_11]; done) | rfl | (simp [f_2, if_pos hc5_7, if_pos hc13_9, if_pos hc23_11]; done), N0, rfl⟩
      · refine own_go (U' := s₁.setTop (mkF m 28 #[.val (.ref a0), .val (.int (1 : Int32))] [])) (fun _ k => XS.icmpYes X0.here hx rfl (pc0 := 23) (pc' := 28) rfl (hb hby d2_23) rfl (feq hc23_11).2 (by decide) (by decide) k) ?_
        refine own_go (U' := s₁.setTop (mkF m 31 #[.val (.ref a0), .val (.int (2 : Int32))] [])) (fun _ k => XS.iinc X0.here hx rfl (hb hby d2_28) rfl (l' := #[.val (.ref a0), .val (.int (2 : Int32))]) rfl k) ?_
        refine own_go (U' := s₁.setTop (mkF m 2 #[.val (.ref a0), .val (.int (2 : Int32))] [])) (fun _ k => XS.goto X0.here hx rfl (pc0 := 31) (pc' := 2) rfl (hb hby d2_31) (by decide) (by decide) k) ?_
        refine own_go (U' := s₁.setTop (mkF m 3 #[.val (.ref a0), .val (.int (2 : Int32))] [(.int (2 : Int32))])) (fun _ k => XS.iloadN X0.here hx rfl (hb hby d2_2) rfl k) ?_
        refine own_go (U' := s₁.setTop (mkF m 4 #[.val (.ref a0), .val (.int (2 : Int32))] [(.ref a0), (.int (2 : Int32))])) (fun _ k => XS.aloadN X0.here hx rfl (hb hby d2_3) rfl rfl k) ?_
        have V12 := V_a
        obtain ⟨cl12, Ar12, q12, S12, Ng12, Hh12⟩ := V12
        have hl12 := len_of S12 Ng12
        refine own_go (U' := s₁.setTop (mkF m 5 #[.val (.ref a0), .val (.int (2 : Int32))] [(.int z), (.int (2 : Int32))])) (fun _ k => X0.arraylength hx (by rw [e0]; exact Ar12.1) (State.isArrayOf_alike hZ.alike Ar12.2.1) (g := (mkF m 4 #[.val (.ref a0), .val (.int (2 : Int32))] [(.ref a0), (.int (2 : Int32))])) rfl rfl (hb hby d2_4) _ (by rw [hl12]; exact k)) ?_
        by_cases hc5_13 : (2 : Int32) < z
        · refine own_go (U' := s₁.setTop (mkF m 8 #[.val (.ref a0), .val (.int (2 : Int32))] [])) (fun _ k => XS.icmpNo X0.here hx rfl (hb hby d2_5) rfl (tlt hc5_13).2.1 k) ?_
          refine own_go (U' := s₁.setTop (mkF m 9 #[.val (.ref a0), .val (.int (2 : Int32))] [(.ref a0)])) (fun _ k => XS.aloadN X0.here hx rfl (hb hby d2_8) rfl rfl k) ?_
          refine own_go (U' := s₁.setTop (mkF m 10 #[.val (.ref a0), .val (.int (2 : Int32))] [(.int (2 : Int32)), (.ref a0)])) (fun _ k => XS.iloadN X0.here hx rfl (hb hby d2_9) rfl k) ?_
          have V14 := V_a
          obtain ⟨cl14, Ar14, q14, S14, Ng14, Hh14⟩ := V14
          have hj14 : ¬ (2 : Int32) < 0 ∧ (2 : Int32) < z := ⟨by decide, hc5_13⟩
          have hat14 := Hh14 _ hj14.1 hj14.2
          refine own_go (U' := s₁.setTop (mkF m 11 #[.val (.ref a0), .val (.int (2 : Int32))] [(.int (f (2 : Int32)))])) (fun _ k => X0.baloadBytes hx (j := (2 : Int32)) (v := (.int (f (2 : Int32)))) (by rw [e0]; exact Ar14.1) (State.isArrayOf_alike hZ.alike Ar14.2.1) Ar14.2.2 (inb_of S14 hj14) hat14 (g := (mkF m 10 #[.val (.ref a0), .val (.int (2 : Int32))] [(.int (2 : Int32)), (.ref a0)])) rfl rfl (hb hby d2_10) _ k) ?_
          refine own_go (U' := s₁.setTop (mkF m 13 #[.val (.ref a0), .val (.int (2 : Int32))] [(.int (10 : Int32)), (.int (f (2 : Int32)))])) (fun _ k => XS.bipush X0.here hx rfl (hb hby d2_11) k) ?_
          by_cases hc13_15 : (f (2 : Int32)) = (10 : Int32)
          · refine own_go (U' := s₁.setTop (mkF m 16 #[.val (.ref a0), .val (.int (2 : Int32))] [])) (fun _ k => XS.icmpNo X0.here hx rfl (hb hby d2_13) rfl (teq hc13_15).2 k) ?_
            refine own_go (U' := s₁.setTop (mkF m 17 #[.val (.ref a0), .val (.int (2 : Int32))] [(.ref a0)])) (fun _ k => XS.aloadN X0.here hx rfl (hb hby d2_16) rfl rfl k) ?_
            refine own_go (U' := s₁.setTop (mkF m 18 #[.val (.ref a0), .val (.int (2 : Int32))] [(.int (2 : Int32)), (.ref a0)])) (fun _ k => XS.iloadN X0.here hx rfl (hb hby d2_17) rfl k) ?_
            refine own_go (U' := s₁.setTop (mkF m 19 #[.val (.ref a0), .val (.int (2 : Int32))] [(.int (1 : Int32)), (.int (2 : Int32)), (.ref a0)])) (fun _ k => XS.iconst X0.here hx rfl (hb hby d2_18) k) ?_
            refine own_go (U' := s₁.setTop (mkF m 20 #[.val (.ref a0), .val (.int (2 : Int32))] [(.int (1 : Int32)), (.ref a0)])) (fun _ k => XS.isub X0.here hx rfl (hb hby d2_19) rfl k) ?_
            have V16 := V_a
            obtain ⟨cl16, Ar16, q16, S16, Ng16, Hh16⟩ := V16
            have hj16 : ¬ (1 : Int32) < 0 ∧ (1 : Int32) < z := ⟨by decide, hc5_7⟩
            have hat16 := Hh16 _ hj16.1 hj16.2
            refine own_go (U' := s₁.setTop (mkF m 21 #[.val (.ref a0), .val (.int (2 : Int32))] [(.int (f (1 : Int32)))])) (fun _ k => X0.baloadBytes hx (j := (1 : Int32)) (v := (.int (f (1 : Int32)))) (by rw [e0]; exact Ar16.1) (State.isArrayOf_alike hZ.alike Ar16.2.1) Ar16.2.2 (inb_of S16 hj16) hat16 (g := (mkF m 20 #[.val (.ref a0), .val (.int (2 : Int32))] [(.int (1 : Int32)), (.ref a0)])) rfl rfl (hb hby d2_20) _ k) ?_
            refine own_go (U' := s₁.setTop (mkF m 23 #[.val (.ref a0), .val (.int (2 : Int32))] [(.int (10 : Int32)), (.int (f (1 : Int32)))])) (fun _ k => XS.bipush X0.here hx rfl (hb hby d2_21) k) ?_
            refine own_go (U' := s₁.setTop (mkF m 26 #[.val (.ref a0), .val (.int (2 : Int32))] [])) (fun _ k => XS.icmpNo X0.here hx rfl (hb hby d2_23) rfl (teq hc13_9).2 k) ?_
            refine own_go (U' := s₁.setTop (mkF m 27 #[.val (.ref a0), .val (.int (2 : Int32))] [(.int (2 : Int32))])) (fun _ k => XS.iloadN X0.here hx rfl (hb hby d2_26) rfl k) ?_
            refine own_ret X0 (v := (some (.int (2 : Int32)))) hlk (fun h => by rw [Bd.returns] at h; cases h) (by decide) (by decide) (fun fs hr => own_retI X0 hx Bd.returns (hb hby d2_27) hr) ?_
            show (Q2 Z a0 k1 z f h0 n0) _ s₁.heap _
            rw [e0]
            exact ⟨by first | (simp only [f_2, if_pos hc5_7, if_pos hc13_9, if_neg hc23_11, if_pos hc5_13, if_pos hc13_15]; done) | rfl | (simp [f_2, if_pos hc5_7, if_pos hc13_9, if_neg hc23_11, if_pos hc5_13, if_pos hc13_15]; done), N0, rfl⟩
          · refine own_go (U' := s₁.setTop (mkF m 28 #[.val (.ref a0), .val (.int (2 : Int32))] [])) (fun _ k => XS.icmpYes X0.here hx rfl (pc0 := 13) (pc' := 28) rfl (hb hby d2_13) rfl (feq hc13_15).2 (by decide) (by decide) k) ?_
            refine own_go (U' := s₁.setTop (mkF m 31 #[.val (.ref a0), .val (.int (3 : Int32))] [])) (fun _ k => XS.iinc X0.here hx rfl (hb hby d2_28) rfl (l' := #[.val (.ref a0), .val (.int (3 : Int32))]) rfl k) ?_
            refine own_go (U' := s₁.setTop (mkF m 2 #[.val (.ref a0), .val (.int (3 : Int32))] [])) (fun _ k => XS.goto X0.here hx rfl (pc0 := 31) (pc' := 2) rfl (hb hby d2_31) (by decide) (by decide) k) ?_
            refine own_go (U' := s₁.setTop (mkF m 3 #[.val (.ref a0), .val (.int (3 : Int32))] [(.int (3 : Int32))])) (fun _ k => XS.iloadN X0.here hx rfl (hb hby d2_2) rfl k) ?_
            refine own_go (U' := s₁.setTop (mkF m 4 #[.val (.ref a0), .val (.int (3 : Int32))] [(.ref a0), (.int (3 : Int32))])) (fun _ k => XS.aloadN X0.here hx rfl (hb hby d2_3) rfl rfl k) ?_
            have V17 := V_a
            obtain ⟨cl17, Ar17, q17, S17, Ng17, Hh17⟩ := V17
            have hl17 := len_of S17 Ng17
            refine own_go (U' := s₁.setTop (mkF m 5 #[.val (.ref a0), .val (.int (3 : Int32))] [(.int z), (.int (3 : Int32))])) (fun _ k => X0.arraylength hx (by rw [e0]; exact Ar17.1) (State.isArrayOf_alike hZ.alike Ar17.2.1) (g := (mkF m 4 #[.val (.ref a0), .val (.int (3 : Int32))] [(.ref a0), (.int (3 : Int32))])) rfl rfl (hb hby d2_4) _ (by rw [hl17]; exact k)) ?_
            by_cases hc5_18 : (3 : Int32) < z
            · refine own_go (U' := s₁.setTop (mkF m 8 #[.val (.ref a0), .val (.int (3 : Int32))] [])) (fun _ k => XS.icmpNo X0.here hx rfl (hb hby d2_5) rfl (tlt hc5_18).2.1 k) ?_
              refine own_go (U' := s₁.setTop (mkF m 9 #[.val (.ref a0), .val (.int (3 : Int32))] [(.ref a0)])) (fun _ k => XS.aloadN X0.here hx rfl (hb hby d2_8) rfl rfl k) ?_
              refine own_go (U' := s₁.setTop (mkF m 10 #[.val (.ref a0), .val (.int (3 : Int32))] [(.int (3 : Int32)), (.ref a0)])) (fun _ k => XS.iloadN X0.here hx rfl (hb hby d2_9) rfl k) ?_
              have V19 := V_a
              obtain ⟨cl19, Ar19, q19, S19, Ng19, Hh19⟩ := V19
              have hj19 : ¬ (3 : Int32) < 0 ∧ (3 : Int32) < z := ⟨by decide, hc5_18⟩
              have hat19 := Hh19 _ hj19.1 hj19.2
              refine own_go (U' := s₁.setTop (mkF m 11 #[.val (.ref a0), .val (.int (3 : Int32))] [(.int (f (3 : Int32)))])) (fun _ k => X0.baloadBytes hx (j := (3 : Int32)) (v := (.int (f (3 : Int32)))) (by rw [e0]; exact Ar19.1) (State.isArrayOf_alike hZ.alike Ar19.2.1) Ar19.2.2 (inb_of S19 hj19) hat19 (g := (mkF m 10 #[.val (.ref a0), .val (.int (3 : Int32))] [(.int (3 : Int32)), (.ref a0)])) rfl rfl (hb hby d2_10) _ k) ?_
              refine own_go (U' := s₁.setTop (mkF m 13 #[.val (.ref a0), .val (.int (3 : Int32))] [(.int (10 : Int32)), (.int (f (3 : Int32)))])) (fun _ k => XS.bipush X0.here hx rfl (hb hby d2_11) k) ?_
              by_cases hc13_20 : (f (3 : Int32)) = (10 : Int32)
              · refine own_go (U' := s₁.setTop (mkF m 16 #[.val (.ref a0), .val (.int (3 : Int32))] [])) (fun _ k => XS.icmpNo X0.here hx rfl (hb hby d2_13) rfl (teq hc13_20).2 k) ?_
                refine own_go (U' := s₁.setTop (mkF m 17 #[.val (.ref a0), .val (.int (3 : Int32))] [(.ref a0)])) (fun _ k => XS.aloadN X0.here hx rfl (hb hby d2_16) rfl rfl k) ?_
                refine own_go (U' := s₁.setTop (mkF m 18 #[.val (.ref a0), .val (.int (3 : Int32))] [(.int (3 : Int32)), (.ref a0)])) (fun _ k => XS.iloadN X0.here hx rfl (hb hby d2_17) rfl k) ?_
                refine own_go (U' := s₁.setTop (mkF m 19 #[.val (.ref a0), .val (.int (3 : Int32))] [(.int (1 : Int32)), (.int (3 : Int32)), (.ref a0)])) (fun _ k => XS.iconst X0.here hx rfl (hb hby d2_18) k) ?_
                refine own_go (U' := s₁.setTop (mkF m 20 #[.val (.ref a0), .val (.int (3 : Int32))] [(.int (2 : Int32)), (.ref a0)])) (fun _ k => XS.isub X0.here hx rfl (hb hby d2_19) rfl k) ?_
                have V21 := V_a
                obtain ⟨cl21, Ar21, q21, S21, Ng21, Hh21⟩ := V21
                have hj21 : ¬ (2 : Int32) < 0 ∧ (2 : Int32) < z := ⟨by decide, hc5_13⟩
                have hat21 := Hh21 _ hj21.1 hj21.2
                refine own_go (U' := s₁.setTop (mkF m 21 #[.val (.ref a0), .val (.int (3 : Int32))] [(.int (f (2 : Int32)))])) (fun _ k => X0.baloadBytes hx (j := (2 : Int32)) (v := (.int (f (2 : Int32)))) (by rw [e0]; exact Ar21.1) (State.isArrayOf_alike hZ.alike Ar21.2.1) Ar21.2.2 (inb_of S21 hj21) hat21 (g := (mkF m 20 #[.val (.ref a0), .val (.int (3 : Int32))] [(.int (2 : Int32)), (.ref a0)])) rfl rfl (hb hby d2_20) _ k) ?_
                refine own_go (U' := s₁.setTop (mkF m 23 #[.val (.ref a0), .val (.int (3 : Int32))] [(.int (10 : Int32)), (.int (f (2 : Int32)))])) (fun _ k => XS.bipush X0.here hx rfl (hb hby d2_21) k) ?_
                refine own_go (U' := s₁.setTop (mkF m 28 #[.val (.ref a0), .val (.int (3 : Int32))] [])) (fun _ k => XS.icmpYes X0.here hx rfl (pc0 := 23) (pc' := 28) rfl (hb hby d2_23) rfl (feq hc13_15).2 (by decide) (by decide) k) ?_
                refine own_go (U' := s₁.setTop (mkF m 31 #[.val (.ref a0), .val (.int (4 : Int32))] [])) (fun _ k => XS.iinc X0.here hx rfl (hb hby d2_28) rfl (l' := #[.val (.ref a0), .val (.int (4 : Int32))]) rfl k) ?_
                refine own_go (U' := s₁.setTop (mkF m 2 #[.val (.ref a0), .val (.int (4 : Int32))] [])) (fun _ k => XS.goto X0.here hx rfl (pc0 := 31) (pc' := 2) rfl (hb hby d2_31) (by decide) (by decide) k) ?_
                refine own_go (U' := s₁.setTop (mkF m 3 #[.val (.ref a0), .val (.int (4 : Int32))] [(.int (4 : Int32))])) (fun _ k => XS.iloadN X0.here hx rfl (hb hby d2_2) rfl k) ?_
                refine own_go (U' := s₁.setTop (mkF m 4 #[.val (.ref a0), .val (.int (4 : Int32))] [(.ref a0), (.int (4 : Int32))])) (fun _ k => XS.aloadN X0.here hx rfl (hb hby d2_3) rfl rfl k) ?_
                have V22 := V_a
                obtain ⟨cl22, Ar22, q22, S22, Ng22, Hh22⟩ := V22
                have hl22 := len_of S22 Ng22
                refine own_go (U' := s₁.setTop (mkF m 5 #[.val (.ref a0), .val (.int (4 : Int32))] [(.int z), (.int (4 : Int32))])) (fun _ k => X0.arraylength hx (by rw [e0]; exact Ar22.1) (State.isArrayOf_alike hZ.alike Ar22.2.1) (g := (mkF m 4 #[.val (.ref a0), .val (.int (4 : Int32))] [(.ref a0), (.int (4 : Int32))])) rfl rfl (hb hby d2_4) _ (by rw [hl22]; exact k)) ?_
                by_cases hc5_23 : (4 : Int32) < z
                · refine own_go (U' := s₁.setTop (mkF m 8 #[.val (.ref a0), .val (.int (4 : Int32))] [])) (fun _ k => XS.icmpNo X0.here hx rfl (hb hby d2_5) rfl (tlt hc5_23).2.1 k) ?_
                  refine own_go (U' := s₁.setTop (mkF m 9 #[.val (.ref a0), .val (.int (4 : Int32))] [(.ref a0)])) (fun _ k => XS.aloadN X0.here hx rfl (hb hby d2_8) rfl rfl k) ?_
                  refine own_go (U' := s₁.setTop (mkF m 10 #[.val (.ref a0), .val (.int (4 : Int32))] [(.int (4 : Int32)), (.ref a0)])) (fun _ k => XS.iloadN X0.here hx rfl (hb hby d2_9) rfl k) ?_
                  have V24 := V_a
                  obtain ⟨cl24, Ar24, q24, S24, Ng24, Hh24⟩ := V24
                  have hj24 : ¬ (4 : Int32) < 0 ∧ (4 : Int32) < z := ⟨by decide, hc5_23⟩
                  have hat24 := Hh24 _ hj24.1 hj24.2
                  refine own_go (U' := s₁.setTop (mkF m 11 #[.val (.ref a0), .val (.int (4 : Int32))] [(.int (f (4 : Int32)))])) (fun _ k => X0.baloadBytes hx (j := (4 : Int32)) (v := (.int (f (4 : Int32)))) (by rw [e0]; exact Ar24.1) (State.isArrayOf_alike hZ.alike Ar24.2.1) Ar24.2.2 (inb_of S24 hj24) hat24 (g := (mkF m 10 #[.val (.ref a0), .val (.int (4 : Int32))] [(.int (4 : Int32)), (.ref a0)])) rfl rfl (hb hby d2_10) _ k) ?_
                  refine own_go (U' := s₁.setTop (mkF m 13 #[.val (.ref a0), .val (.int (4 : Int32))] [(.int (10 : Int32)), (.int (f (4 : Int32)))])) (fun _ k => XS.bipush X0.here hx rfl (hb hby d2_11) k) ?_
                  by_cases hc13_25 : (f (4 : Int32)) = (10 : Int32)
                  · refine own_go (U' := s₁.setTop (mkF m 16 #[.val (.ref a0), .val (.int (4 : Int32))] [])) (fun _ k => XS.icmpNo X0.here hx rfl (hb hby d2_13) rfl (teq hc13_25).2 k) ?_
                    refine own_go (U' := s₁.setTop (mkF m 17 #[.val (.ref a0), .val (.int (4 : Int32))] [(.ref a0)])) (fun _ k => XS.aloadN X0.here hx rfl (hb hby d2_16) rfl rfl k) ?_
                    refine own_go (U' := s₁.setTop (mkF m 18 #[.val (.ref a0), .val (.int (4 : Int32))] [(.int (4 : Int32)), (.ref a0)])) (fun _ k => XS.iloadN X0.here hx rfl (hb hby d2_17) rfl k) ?_
                    refine own_go (U' := s₁.setTop (mkF m 19 #[.val (.ref a0), .val (.int (4 : Int32))] [(.int (1 : Int32)), (.int (4 : Int32)), (.ref a0)])) (fun _ k => XS.iconst X0.here hx rfl (hb hby d2_18) k) ?_
                    refine own_go (U' := s₁.setTop (mkF m 20 #[.val (.ref a0), .val (.int (4 : Int32))] [(.int (3 : Int32)), (.ref a0)])) (fun _ k => XS.isub X0.here hx rfl (hb hby d2_19) rfl k) ?_
                    have V26 := V_a
                    obtain ⟨cl26, Ar26, q26, S26, Ng26, Hh26⟩ := V26
                    have hj26 : ¬ (3 : Int32) < 0 ∧ (3 : Int32) < z := ⟨by decide, hc5_18⟩
                    have hat26 := Hh26 _ hj26.1 hj26.2
                    refine own_go (U' := s₁.setTop (mkF m 21 #[.val (.ref a0), .val (.int (4 : Int32))] [(.int (f (3 : Int32)))])) (fun _ k => X0.baloadBytes hx (j := (3 : Int32)) (v := (.int (f (3 : Int32)))) (by rw [e0]; exact Ar26.1) (State.isArrayOf_alike hZ.alike Ar26.2.1) Ar26.2.2 (inb_of S26 hj26) hat26 (g := (mkF m 20 #[.val (.ref a0), .val (.int (4 : Int32))] [(.int (3 : Int32)), (.ref a0)])) rfl rfl (hb hby d2_20) _ k) ?_
                    refine own_go (U' := s₁.setTop (mkF m 23 #[.val (.ref a0), .val (.int (4 : Int32))] [(.int (10 : Int32)), (.int (f (3 : Int32)))])) (fun _ k => XS.bipush X0.here hx rfl (hb hby d2_21) k) ?_
                    refine own_go (U' := s₁.setTop (mkF m 26 #[.val (.ref a0), .val (.int (4 : Int32))] [])) (fun _ k => XS.icmpNo X0.here hx rfl (hb hby d2_23) rfl (teq hc13_20).2 k) ?_
                    refine own_go (U' := s₁.setTop (mkF m 27 #[.val (.ref a0), .val (.int (4 : Int32))] [(.int (4 : Int32))])) (fun _ k => XS.iloadN X0.here hx rfl (hb hby d2_26) rfl k) ?_
                    refine own_ret X0 (v := (some (.int (4 : Int32)))) hlk (fun h => by rw [Bd.returns] at h; cases h) (by decide) (by decide) (fun fs hr => own_retI X0 hx Bd.returns (hb hby d2_27) hr) ?_
                    show (Q2 Z a0 k1 z f h0 n0) _ s₁.heap _
                    rw [e0]
                    exact ⟨by first | (simp only [f_2, if_pos hc5_7, if_pos hc13_9, if_neg hc23_11, if_pos hc5_13, if_neg hc13_15, if_pos hc5_18, if_pos hc13_20, if_pos hc5_23, if_pos hc13_25]; done) | rfl | (simp [f_2, if_pos hc5_7, if_pos hc13_9, if_neg hc23_11, if_pos hc5_13, if_neg hc13_15, if_pos hc5_18, if_pos hc13_20, if_pos hc5_23, if_pos hc13_25]; done), N0, rfl⟩
                  · refine own_go (U' := s₁.setTop (mkF m 28 #[.val (.ref a0), .val (.int (4 : Int32))] [])) (fun _ k => XS.icmpYes X0.here hx rfl (pc0 := 13) (pc' := 28) rfl (hb hby d2_13) rfl (feq hc13_25).2 (by decide) (by decide) k) ?_
                    refine own_go (U' := s₁.setTop (mkF m 31 #[.val (.ref a0), .val (.int (5 : Int32))] [])) (fun _ k => XS.iinc X0.here hx rfl (hb hby d2_28) rfl (l' := #[.val (.ref a0), .val (.int (5 : Int32))]) rfl k) ?_
                    refine own_go (U' := s₁.setTop (mkF m 2 #[.val (.ref a0), .val (.int (5 : Int32))] [])) (fun _ k => XS.goto X0.here hx rfl (pc0 := 31) (pc' := 2) rfl (hb hby d2_31) (by decide) (by decide) k) ?_
                    refine own_go (U' := s₁.setTop (mkF m 3 #[.val (.ref a0), .val (.int (5 : Int32))] [(.int (5 : Int32))])) (fun _ k => XS.iloadN X0.here hx rfl (hb hby d2_2) rfl k) ?_
                    refine own_go (U' := s₁.setTop (mkF m 4 #[.val (.ref a0), .val (.int (5 : Int32))] [(.ref a0), (.int (5 : Int32))])) (fun _ k => XS.aloadN X0.here hx rfl (hb hby d2_3) rfl rfl k) ?_
                    have V27 := V_a
                    obtain ⟨cl27, Ar27, q27, S27, Ng27, Hh27⟩ := V27
                    have hl27 := len_of S27 Ng27
                    refine own_go (U' := s₁.setTop (mkF m 5 #[.val (.ref a0), .val (.int (5 : Int32))] [(.int z), (.int (5 : Int32))])) (fun _ k => X0.arraylength hx (by rw [e0]; exact Ar27.1) (State.isArrayOf_alike hZ.alike Ar27.2.1) (g := (mkF m 4 #[.val (.ref a0), .val (.int (5 : Int32))] [(.ref a0), (.int (5 : Int32))])) rfl rfl (hb hby d2_4) _ (by rw [hl27]; exact k)) ?_
                    have hc5_28 : ¬ ((5 : Int32) < z) := own_n5 h6
                    refine own_go (U' := s₁.setTop (mkF m 34 #[.val (.ref a0), .val (.int (5 : Int32))] [])) (fun _ k => XS.icmpYes X0.here hx rfl (pc0 := 5) (pc' := 34) rfl (hb hby d2_5) rfl (flt hc5_28).2.1 (by decide) (by decide) k) ?_
                    refine own_go (U' := s₁.setTop (mkF m 35 #[.val (.ref a0), .val (.int (5 : Int32))] [(.int (-1 : Int32))])) (fun _ k => XS.iconst X0.here hx rfl (hb hby d2_34) k) ?_
                    refine own_ret X0 (v := (some (.int (-1 : Int32)))) hlk (fun h => by rw [Bd.returns] at h; cases h) (by decide) (by decide) (fun fs hr => own_retI X0 hx Bd.returns (hb hby d2_35) hr) ?_
                    show (Q2 Z a0 k1 z f h0 n0) _ s₁.heap _
                    rw [e0]
                    exact ⟨by first | (simp only [f_2, if_pos hc5_7, if_pos hc13_9, if_neg hc23_11, if_pos hc5_13, if_neg hc13_15, if_pos hc5_18, if_pos hc13_20, if_pos hc5_23, if_neg hc13_25, if_neg hc5_28]; done) | rfl | (simp [f_2, if_pos hc5_7, if_pos hc13_9, if_neg hc23_11, if_pos hc5_13, if_neg hc13_15, if_pos hc5_18, if_pos hc13_20, if_pos hc5_23, if_neg hc13_25, if_neg hc5_28]; done), N0, rfl⟩
                · refine own_go (U' := s₁.setTop (mkF m 34 #[.val (.ref a0), .val (.int (4 : Int32))] [])) (fun _ k => XS.icmpYes X0.here hx rfl (pc0 := 5) (pc' := 34) rfl (hb hby d2_5) rfl (flt hc5_23).2.1 (by decide) (by decide) k) ?_
                  refine own_go (U' := s₁.setTop (mkF m 35 #[.val (.ref a0), .val (.int (4 : Int32))] [(.int (-1 : Int32))])) (fun _ k => XS.iconst X0.here hx rfl (hb hby d2_34) k) ?_
                  refine own_ret X0 (v := (some (.int (-1 : Int32)))) hlk (fun h => by rw [Bd.returns] at h; cases h) (by decide) (by decide) (fun fs hr => own_retI X0 hx Bd.returns (hb hby d2_35) hr) ?_
                  show (Q2 Z a0 k1 z f h0 n0) _ s₁.heap _
                  rw [e0]
                  exact ⟨by first | (simp only [f_2, if_pos hc5_7, if_pos hc13_9, if_neg hc23_11, if_pos hc5_13, if_neg hc13_15, if_pos hc5_18, if_pos hc13_20, if_neg hc5_23]; done) | rfl | (simp [f_2, if_pos hc5_7, if_pos hc13_9, if_neg hc23_11, if_pos hc5_13, if_neg hc13_15, if_pos hc5_18, if_pos hc13_20, if_neg hc5_23]; done), N0, rfl⟩
              · refine own_go (U' := s₁.setTop (mkF m 28 #[.val (.ref a0), .val (.int (3 : Int32))] [])) (fun _ k => XS.icmpYes X0.here hx rfl (pc0 := 13) (pc' := 28) rfl (hb hby d2_13) rfl (feq hc13_20).2 (by decide) (by decide) k) ?_
                refine own_go (U' := s₁.setTop (mkF m 31 #[.val (.ref a0), .val (.int (4 : Int32))] [])) (fun _ k => XS.iinc X0.here hx rfl (hb hby d2_28) rfl (l' := #[.val (.ref a0), .val (.int (4 : Int32))]) rfl k) ?_
                refine own_go (U' := s₁.setTop (mkF m 2 #[.val (.ref a0), .val (.int (4 : Int32))] [])) (fun _ k => XS.goto X0.here hx rfl (pc0 := 31) (pc' := 2) rfl (hb hby d2_31) (by decide) (by decide) k) ?_
                refine own_go (U' := s₁.setTop (mkF m 3 #[.val (.ref a0), .val (.int (4 : Int32))] [(.int (4 : Int32))])) (fun _ k => XS.iloadN X0.here hx rfl (hb hby d2_2) rfl k) ?_
                refine own_go (U' := s₁.setTop (mkF m 4 #[.val (.ref a0), .val (.int (4 : Int32))] [(.ref a0), (.int (4 : Int32))])) (fun _ k => XS.aloadN X0.here hx rfl (hb hby d2_3) rfl rfl k) ?_
                have V29 := V_a
                obtain ⟨cl29, Ar29, q29, S29, Ng29, Hh29⟩ := V29
                have hl29 := len_of S29 Ng29
                refine own_go (U' := s₁.setTop (mkF m 5 #[.val (.ref a0), .val (.int (4 : Int32))] [(.int z), (.int (4 : Int32))])) (fun _ k => X0.arraylength hx (by rw [e0]; exact Ar29.1) (State.isArrayOf_alike hZ.alike Ar29.2.1) (g := (mkF m 4 #[.val (.ref a0), .val (.int (4 : Int32))] [(.ref a0), (.int (4 : Int32))])) rfl rfl (hb hby d2_4) _ (by rw [hl29]; exact k)) ?_
                by_cases hc5_30 : (4 : Int32) < z
                · refine own_go (U' := s₁.setTop (mkF m 8 #[.val (.ref a0), .val (.int (4 : Int32))] [])) (fun _ k => XS.icmpNo X0.here hx rfl (hb hby d2_5) rfl (tlt hc5_30).2.1 k) ?_
                  refine own_go (U' := s₁.setTop (mkF m 9 #[.val (.ref a0), .val (.int (4 : Int32))] [(.ref a0)])) (fun _ k => XS.aloadN X0.here hx rfl (hb hby d2_8) rfl rfl k) ?_
                  refine own_go (U' := s₁.setTop (mkF m 10 #[.val (.ref a0), .val (.int (4 : Int32))] [(.int (4 : Int32)), (.ref a0)])) (fun _ k => XS.iloadN X0.here hx rfl (hb hby d2_9) rfl k) ?_
                  have V31 := V_a
                  obtain ⟨cl31, Ar31, q31, S31, Ng31, Hh31⟩ := V31
                  have hj31 : ¬ (4 : Int32) < 0 ∧ (4 : Int32) < z := ⟨by decide, hc5_30⟩
                  have hat31 := Hh31 _ hj31.1 hj31.2
                  refine own_go (U' := s₁.setTop (mkF m 11 #[.val (.ref a0), .val (.int (4 : Int32))] [(.int (f (4 : Int32)))])) (fun _ k => X0.baloadBytes hx (j := (4 : Int32)) (v := (.int (f (4 : Int32)))) (by rw [e0]; exact Ar31.1) (State.isArrayOf_alike hZ.alike Ar31.2.1) Ar31.2.2 (inb_of S31 hj31) hat31 (g := (mkF m 10 #[.val (.ref a0), .val (.int (4 : Int32))] [(.int (4 : Int32)), (.ref a0)])) rfl rfl (hb hby d2_10) _ k) ?_
                  refine own_go (U' := s₁.setTop (mkF m 13 #[.val (.ref a0), .val (.int (4 : Int32))] [(.int (10 : Int32)), (.int (f (4 : Int32)))])) (fun _ k => XS.bipush X0.here hx rfl (hb hby d2_11) k) ?_
                  by_cases hc13_32 : (f (4 : Int32)) = (10 : Int32)
                  · refine own_go (U' := s₁.setTop (mkF m 16 #[.val (.ref a0), .val (.int (4 : Int32))] [])) (fun _ k => XS.icmpNo X0.here hx rfl (hb hby d2_13) rfl (teq hc13_32).2 k) ?_
                    refine own_go (U' := s₁.setTop (mkF m 17 #[.val (.ref a0), .val (.int (4 : Int32))] [(.ref a0)])) (fun _ k => XS.aloadN X0.here hx rfl (hb hby d2_16) rfl rfl k) ?_
                    refine own_go (U' := s₁.setTop (mkF m 18 #[.val (.ref a0), .val (.int (4 : Int32))] [(.int (4 : Int32)), (.ref a0)])) (fun _ k => XS.iloadN X0.here hx rfl (hb hby d2_17) rfl k) ?_
                    refine own_go (U' := s₁.setTop (mkF m 19 #[.val (.ref a0), .val (.int (4 : Int32))] [(.int (1 : Int32)), (.int (4 : Int32)), (.ref a0)])) (fun _ k => XS.iconst X0.here hx rfl (hb hby d2_18) k) ?_
                    refine own_go (U' := s₁.setTop (mkF m 20 #[.val (.ref a0), .val (.int (4 : Int32))] [(.int (3 : Int32)), (.ref a0)])) (fun _ k => XS.isub X0.here hx rfl (hb hby d2_19) rfl k) ?_
                    have V33 := V_a
                    obtain ⟨cl33, Ar33, q33, S33, Ng33, Hh33⟩ := V33
                    have hj33 : ¬ (3 : Int32) < 0 ∧ (3 : Int32) < z := ⟨by decide, hc5_18⟩
                    have hat33 := Hh33 _ hj33.1 hj33.2
                    refine own_go (U' := s₁.setTop (mkF m 21 #[.val (.ref a0), .val (.int (4 : Int32))] [(.int (f (3 : Int32)))])) (fun _ k => X0.baloadBytes hx (j := (3 : Int32)) (v := (.int (f (3 : Int32)))) (by rw [e0]; exact Ar33.1) (State.isArrayOf_alike hZ.alike Ar33.2.1) Ar33.2.2 (inb_of S33 hj33) hat33 (g := (mkF m 20 #[.val (.ref a0), .val (.int (4 : Int32))] [(.int (3 : Int32)), (.ref a0)])) rfl rfl (hb hby d2_20) _ k) ?_
                    refine own_go (U' := s₁.setTop (mkF m 23 #[.val (.ref a0), .val (.int (4 : Int32))] [(.int (10 : Int32)), (.int (f (3 : Int32)))])) (fun _ k => XS.bipush X0.here hx rfl (hb hby d2_21) k) ?_
                    refine own_go (U' := s₁.setTop (mkF m 28 #[.val (.ref a0), .val (.int (4 : Int32))] [])) (fun _ k => XS.icmpYes X0.here hx rfl (pc0 := 23) (pc' := 28) rfl (hb hby d2_23) rfl (feq hc13_20).2 (by decide) (by decide) k) ?_
                    refine own_go (U' := s₁.setTop (mkF m 31 #[.val (.ref a0), .val (.int (5 : Int32))] [])) (fun _ k => XS.iinc X0.here hx rfl (hb hby d2_28) rfl (l' := #[.val (.ref a0), .val (.int (5 : Int32))]) rfl k) ?_
                    refine own_go (U' := s₁.setTop (mkF m 2 #[.val (.ref a0), .val (.int (5 : Int32))] [])) (fun _ k => XS.goto X0.here hx rfl (pc0 := 31) (pc' := 2) rfl (hb hby d2_31) (by decide) (by decide) k) ?_
                    refine own_go (U' := s₁.setTop (mkF m 3 #[.val (.ref a0), .val (.int (5 : Int32))] [(.int (5 : Int32))])) (fun _ k => XS.iloadN X0.here hx rfl (hb hby d2_2) rfl k) ?_
                    refine own_go (U' := s₁.setTop (mkF m 4 #[.val (.ref a0), .val (.int (5 : Int32))] [(.ref a0), (.int (5 : Int32))])) (fun _ k => XS.aloadN X0.here hx rfl (hb hby d2_3) rfl rfl k) ?_
                    have V34 := V_a
                    obtain ⟨cl34, Ar34, q34, S34, Ng34, Hh34⟩ := V34
                    have hl34 := len_of S34 Ng34
                    refine own_go (U' := s₁.setTop (mkF m 5 #[.val (.ref a0), .val (.int (5 : Int32))] [(.int z), (.int (5 : Int32))])) (fun _ k => X0.arraylength hx (by rw [e0]; exact Ar34.1) (State.isArrayOf_alike hZ.alike Ar34.2.1) (g := (mkF m 4 #[.val (.ref a0), .val (.int (5 : Int32))] [(.ref a0), (.int (5 : Int32))])) rfl rfl (hb hby d2_4) _ (by rw [hl34]; exact k)) ?_
                    have hc5_35 : ¬ ((5 : Int32) < z) := own_n5 h6
                    refine own_go (U' := s₁.setTop (mkF m 34 #[.val (.ref a0), .val (.int (5 : Int32))] [])) (fun _ k => XS.icmpYes X0.here hx rfl (pc0 := 5) (pc' := 34) rfl (hb hby d2_5) rfl (flt hc5_35).2.1 (by decide) (by decide) k) ?_
                    refine own_go (U' := s₁.setTop (mkF m 35 #[.val (.ref a0), .val (.int (5 : Int32))] [(.int (-1 : Int32))])) (fun _ k => XS.iconst X0.here hx rfl (hb hby d2_34) k) ?_
                    refine own_ret X0 (v := (some (.int (-1 : Int32)))) hlk (fun h => by rw [Bd.returns] at h; cases h) (by decide) (by decide) (fun fs hr => own_retI X0 hx Bd.returns (hb hby d2_35) hr) ?_
                    show (Q2 Z a0 k1 z f h0 n0) _ s₁.heap _
                    rw [e0]
                    exact ⟨by first | (simp only [f_2, if_pos hc5_7, if_pos hc13_9, if_neg hc23_11, if_pos hc5_13, if_neg hc13_15, if_pos hc5_18, if_neg hc13_20, if_pos hc5_30, if_pos hc13_32, if_neg hc5_35]; done) | rfl | (simp [f_2, if_pos hc5_7, if_pos hc13_9, if_neg hc23_11, if_pos hc5_13, if_neg hc13_15, if_pos hc5_18, if_neg hc13_20, if_pos hc5_30, if_pos hc13_32, if_neg hc5_35]; done), N0, rfl⟩
                  · refine own_go (U' := s₁.setTop (mkF m 28 #[.val (.ref a0), .val (.int (4 : Int32))] [])) (fun _ k => XS.icmpYes X0.here hx rfl (pc0 := 13) (pc' := 28) rfl (hb hby d2_13) rfl (feq hc13_32).2 (by decide) (by decide) k) ?_
                    refine own_go (U' := s₁.setTop (mkF m 31 #[.val (.ref a0), .val (.int (5 : Int32))] [])) (fun _ k => XS.iinc X0.here hx rfl (hb hby d2_28) rfl (l' := #[.val (.ref a0), .val (.int (5 : Int32))]) rfl k) ?_
                    refine own_go (U' := s₁.setTop (mkF m 2 #[.val (.ref a0), .val (.int (5 : Int32))] [])) (fun _ k => XS.goto X0.here hx rfl (pc0 := 31) (pc' := 2) rfl (hb hby d2_31) (by decide) (by decide) k) ?_
                    refine own_go (U' := s₁.setTop (mkF m 3 #[.val (.ref a0), .val (.int (5 : Int32))] [(.int (5 : Int32))])) (fun _ k => XS.iloadN X0.here hx rfl (hb hby d2_2) rfl k) ?_
                    refine own_go (U' := s₁.setTop (mkF m 4 #[.val (.ref a0), .val (.int (5 : Int32))] [(.ref a0), (.int (5 : Int32))])) (fun _ k => XS.aloadN X0.here hx rfl (hb hby d2_3) rfl rfl k) ?_
                    have V36 := V_a
                    obtain ⟨cl36, Ar36, q36, S36, Ng36, Hh36⟩ := V36
                    have hl36 := len_of S36 Ng36
                    refine own_go (U' := s₁.setTop (mkF m 5 #[.val (.ref a0), .val (.int (5 : Int32))] [(.int z), (.int (5 : Int32))])) (fun _ k => X0.arraylength hx (by rw [e0]; exact Ar36.1) (State.isArrayOf_alike hZ.alike Ar36.2.1) (g := (mkF m 4 #[.val (.ref a0), .val (.int (5 : Int32))] [(.ref a0), (.int (5 : Int32))])) rfl rfl (hb hby d2_4) _ (by rw [hl36]; exact k)) ?_
                    have hc5_37 : ¬ ((5 : Int32) < z) := own_n5 h6
                    refine own_go (U' := s₁.setTop (mkF m 34 #[.val (.ref a0), .val (.int (5 : Int32))] [])) (fun _ k => XS.icmpYes X0.here hx rfl (pc0 := 5) (pc' := 34) rfl (hb hby d2_5) rfl (flt hc5_37).2.1 (by decide) (by decide) k) ?_
                    refine own_go (U' := s₁.setTop (mkF m 35 #[.val (.ref a0), .val (.int (5 : Int32))] [(.int (-1 : Int32))])) (fun _ k => XS.iconst X0.here hx rfl (hb hby d2_34) k) ?_
                    refine own_ret X0 (v := (some (.int (-1 : Int32)))) hlk (fun h => by rw [Bd.returns] at h; cases h) (by decide) (by decide) (fun fs hr => own_retI X0 hx Bd.returns (hb hby d2_35) hr) ?_
                    show (Q2 Z a0 k1 z f h0 n0) _ s₁.heap _
                    rw [e0]
                    exact ⟨by first | (simp only [f_2, if_pos hc5_7, if_pos hc13_9, if_neg hc23_11, if_pos hc5_13, if_neg hc13_15, if_pos hc5_18, if_neg hc13_20, if_pos hc5_30, if_neg hc13_32, if_neg hc5_37]; done) | rfl | (simp [f_2, if_pos hc5_7, if_pos hc13_9, if_neg hc23_11, if_pos hc5_13, if_neg hc13_15, if_pos hc5_18, if_neg hc13_20, if_pos hc5_30, if_neg hc13_32, if_neg hc5_37]; done), N0, rfl⟩
                · refine own_go (U' := s₁.setTop (mkF m 34 #[.val (.ref a0), .val (.int (4 : Int32))] [])) (fun _ k => XS.icmpYes X0.here hx rfl (pc0 := 5) (pc' := 34) rfl (hb hby d2_5) rfl (flt hc5_30).2.1 (by decide) (by decide) k) ?_
                  refine own_go (U' := s₁.setTop (mkF m 35 #[.val (.ref a0), .val (.int (4 : Int32))] [(.int (-1 : Int32))])) (fun _ k => XS.iconst X0.here hx rfl (hb hby d2_34) k) ?_
                  refine own_ret X0 (v := (some (.int (-1 : Int32)))) hlk (fun h => by rw [Bd.returns] at h; cases h) (by decide) (by decide) (fun fs hr => own_retI X0 hx Bd.returns (hb hby d2_35) hr) ?_
                  show (Q2 Z a0 k1 z f h0 n0) _ s₁.heap _
                  rw [e0]
                  exact ⟨by first | (simp only [f_2, if_pos hc5_7, if_pos hc13_9, if_neg hc23_11, if_pos hc5_13, if_neg hc13_15, if_pos hc5_18, if_neg hc13_20, if_neg hc5_30]; done) | rfl | (simp [f_2, if_pos hc5_7, if_pos hc13_9, if_neg hc23_11, if_pos hc5_13, if_neg hc13_15, if_pos hc5_18, if_neg hc13_20, if_neg hc5_30]; done), N0, rfl⟩
            · refine own_go (U' := s₁.setTop (mkF m 34 #[.val (.ref a0), .val (.int (3 : Int32))] [])) (fun _ k => XS.icmpYes X0.here hx rfl (pc0 := 5) (pc' := 34) rfl (hb hby d2_5) rfl (flt hc5_18).2.1 (by decide) (by decide) k) ?_
              refine own_go (U' := s₁.setTop (mkF m 35 #[.val (.ref a0), .val (.int (3 : Int32))] [(.int (-1 : Int32))])) (fun _ k => XS.iconst X0.here hx rfl (hb hby d2_34) k) ?_
              refine own_ret X0 (v := (some (.int (-1 : Int32)))) hlk (fun h => by rw [Bd.returns] at h; cases h) (by decide) (by decide) (fun fs hr => own_retI X0 hx Bd.returns (hb hby d2_35) hr) ?_
              show (Q2 Z a0 k1 z f h0 n0) _ s₁.heap _
              rw [e0]
              exact ⟨by first | (simp only [f_2, if_pos hc5_7, if_pos hc13_9, if_neg hc23_11, if_pos hc5_13, if_neg hc13_15, if_neg hc5_18]; done) | rfl | (simp [f_2, if_pos hc5_7, if_pos hc13_9, if_neg hc23_11, if_pos hc5_13, if_neg hc13_15, if_neg hc5_18]; done), N0, rfl⟩
        · refine own_go (U' := s₁.setTop (mkF m 34 #[.val (.ref a0), .val (.int (2 : Int32))] [])) (fun _ k => XS.icmpYes X0.here hx rfl (pc0 := 5) (pc' := 34) rfl (hb hby d2_5) rfl (flt hc5_13).2.1 (by decide) (by decide) k) ?_
          refine own_go (U' := s₁.setTop (mkF m 35 #[.val (.ref a0), .val (.int (2 : Int32))] [(.int (-1 : Int32))])) (fun _ k => XS.iconst X0.here hx rfl (hb hby d2_34) k) ?_
          refine own_ret X0 (v := (some (.int (-1 : Int32)))) hlk (fun h => by rw [Bd.returns] at h; cases h) (by decide) (by decide) (fun fs hr => own_retI X0 hx Bd.returns (hb hby d2_35) hr) ?_
          show (Q2 Z a0 k1 z f h0 n0) _ s₁.heap _
          rw [e0]
          exact ⟨by first | (simp only [f_2, if_pos hc5_7, if_pos hc13_9, if_neg hc23_11, if_neg hc5_13]; done) | rfl | (simp [f_2, if_pos hc5_7, if_pos hc13_9, if_neg hc23_11, if_neg hc5_13]; done), N0, rfl⟩
    · refine own_go (U' := s₁.setTop (mkF m 28 #[.val (.ref a0), .val (.int (1 : Int32))] [])) (fun _ k => XS.icmpYes X0.here hx rfl (pc0 := 13) (pc' := 28) rfl (hb hby d2_13) rfl (feq hc13_9).2 (by decide) (by decide) k) ?_
      refine own_go (U' := s₁.setTop (mkF m 31 #[.val (.ref a0), .val (.int (2 : Int32))] [])) (fun _ k => XS.iinc X0.here hx rfl (hb hby d2_28) rfl (l' := #[.val (.ref a0), .val (.int (2 : Int32))]) rfl k) ?_
      refine own_go (U' := s₁.setTop (mkF m 2 #[.val (.ref a0), .val (.int (2 : Int32))] [])) (fun _ k => XS.goto X0.here hx rfl (pc0 := 31) (pc' := 2) rfl (hb hby d2_31) (by decide) (by decide) k) ?_
      refine own_go (U' := s₁.setTop (mkF m 3 #[.val (.ref a0), .val (.int (2 : Int32))] [(.int (2 : Int32))])) (fun _ k => XS.iloadN X0.here hx rfl (hb hby d2_2) rfl k) ?_
      refine own_go (U' := s₁.setTop (mkF m 4 #[.val (.ref a0), .val (.int (2 : Int32))] [(.ref a0), (.int (2 : Int32))])) (fun _ k => XS.aloadN X0.here hx rfl (hb hby d2_3) rfl rfl k) ?_
      have V38 := V_a
      obtain ⟨cl38, Ar38, q38, S38, Ng38, Hh38⟩ := V38
      have hl38 := len_of S38 Ng38
      refine own_go (U' := s₁.setTop (mkF m 5 #[.val (.ref a0), .val (.int (2 : Int32))] [(.int z), (.int (2 : Int32))])) (fun _ k => X0.arraylength hx (by rw [e0]; exact Ar38.1) (State.isArrayOf_alike hZ.alike Ar38.2.1) (g := (mkF m 4 #[.val (.ref a0), .val (.int (2 : Int32))] [(.ref a0), (.int (2 : Int32))])) rfl rfl (hb hby d2_4) _ (by rw [hl38]; exact k)) ?_
      by_cases hc5_39 : (2 : Int32) < z
      · refine own_go (U' := s₁.setTop (mkF m 8 #[.val (.ref a0), .val (.int (2 : Int32))] [])) (fun _ k => XS.icmpNo X0.here hx rfl (hb hby d2_5) rfl (tlt hc5_39).2.1 k) ?_
        refine own_go (U' := s₁.setTop (mkF m 9 #[.val (.ref a0), .val (.int (2 : Int32))] [(.ref a0)])) (fun _ k => XS.aloadN X0.here hx rfl (hb hby d2_8) rfl rfl k) ?_
        refine own_go (U' := s₁.setTop (mkF m 10 #[.val (.ref a0), .val (.int (2 : Int32))] [(.int (2 : Int32)), (.ref a0)])) (fun _ k => XS.iloadN X0.here hx rfl (hb hby d2_9) rfl k) ?_
        have V40 := V_a
        obtain ⟨cl40, Ar40, q40, S40, Ng40, Hh40⟩ := V40
        have hj40 : ¬ (2 : Int32) < 0 ∧ (2 : Int32) < z := ⟨by decide, hc5_39⟩
        have hat40 := Hh40 _ hj40.1 hj40.2
        refine own_go (U' := s₁.setTop (mkF m 11 #[.val (.ref a0), .val (.int (2 : Int32))] [(.int (f (2 : Int32)))])) (fun _ k => X0.baloadBytes hx (j := (2 : Int32)) (v := (.int (f (2 : Int32)))) (by rw [e0]; exact Ar40.1) (State.isArrayOf_alike hZ.alike Ar40.2.1) Ar40.2.2 (inb_of S40 hj40) hat40 (g := (mkF m 10 #[.val (.ref a0), .val (.int (2 : Int32))] [(.int (2 : Int32)), (.ref a0)])) rfl rfl (hb hby d2_10) _ k) ?_
        refine own_go (U' := s₁.setTop (mkF m 13 #[.val (.ref a0), .val (.int (2 : Int32))] [(.int (10 : Int32)), (.int (f (2 : Int32)))])) (fun _ k => XS.bipush X0.here hx rfl (hb hby d2_11) k) ?_
        by_cases hc13_41 : (f (2 : Int32)) = (10 : Int32)
        · refine own_go (U' := s₁.setTop (mkF m 16 #[.val (.ref a0), .val (.int (2 : Int32))] [])) (fun _ k => XS.icmpNo X0.here hx rfl (hb hby d2_13) rfl (teq hc13_41).2 k) ?_
          refine own_go (U' := s₁.setTop (mkF m 17 #[.val (.ref a0), .val (.int (2 : Int32))] [(.ref a0)])) (fun _ k => XS.aloadN X0.here hx rfl (hb hby d2_16) rfl rfl k) ?_
          refine own_go (U' := s₁.setTop (mkF m 18 #[.val (.ref a0), .val (.int (2 : Int32))] [(.int (2 : Int32)), (.ref a0)])) (fun _ k => XS.iloadN X0.here hx rfl (hb hby d2_17) rfl k) ?_
          refine own_go (U' := s₁.setTop (mkF m 19 #[.val (.ref a0), .val (.int (2 : Int32))] [(.int (1 : Int32)), (.int (2 : Int32)), (.ref a0)])) (fun _ k => XS.iconst X0.here hx rfl (hb hby d2_18) k) ?_
          refine own_go (U' := s₁.setTop (mkF m 20 #[.val (.ref a0), .val (.int (2 : Int32))] [(.int (1 : Int32)), (.ref a0)])) (fun _ k => XS.isub X0.here hx rfl (hb hby d2_19) rfl k) ?_
          have V42 := V_a
          obtain ⟨cl42, Ar42, q42, S42, Ng42, Hh42⟩ := V42
          have hj42 : ¬ (1 : Int32) < 0 ∧ (1 : Int32) < z := ⟨by decide, hc5_7⟩
          have hat42 := Hh42 _ hj42.1 hj42.2
          refine own_go (U' := s₁.setTop (mkF m 21 #[.val (.ref a0), .val (.int (2 : Int32))] [(.int (f (1 : Int32)))])) (fun _ k => X0.baloadBytes hx (j := (1 : Int32)) (v := (.int (f (1 : Int32)))) (by rw [e0]; exact Ar42.1) (State.isArrayOf_alike hZ.alike Ar42.2.1) Ar42.2.2 (inb_of S42 hj42) hat42 (g := (mkF m 20 #[.val (.ref a0), .val (.int (2 : Int32))] [(.int (1 : Int32)), (.ref a0)])) rfl rfl (hb hby d2_20) _ k) ?_
          refine own_go (U' := s₁.setTop (mkF m 23 #[.val (.ref a0), .val (.int (2 : Int32))] [(.int (10 : Int32)), (.int (f (1 : Int32)))])) (fun _ k => XS.bipush X0.here hx rfl (hb hby d2_21) k) ?_
          refine own_go (U' := s₁.setTop (mkF m 28 #[.val (.ref a0), .val (.int (2 : Int32))] [])) (fun _ k => XS.icmpYes X0.here hx rfl (pc0 := 23) (pc' := 28) rfl (hb hby d2_23) rfl (feq hc13_9).2 (by decide) (by decide) k) ?_
          refine own_go (U' := s₁.setTop (mkF m 31 #[.val (.ref a0), .val (.int (3 : Int32))] [])) (fun _ k => XS.iinc X0.here hx rfl (hb hby d2_28) rfl (l' := #[.val (.ref a0), .val (.int (3 : Int32))]) rfl k) ?_
          refine own_go (U' := s₁.setTop (mkF m 2 #[.val (.ref a0), .val (.int (3 : Int32))] [])) (fun _ k => XS.goto X0.here hx rfl (pc0 := 31) (pc' := 2) rfl (hb hby d2_31) (by decide) (by decide) k) ?_
          refine own_go (U' := s₁.setTop (mkF m 3 #[.val (.ref a0), .val (.int (3 : Int32))] [(.int (3 : Int32))])) (fun _ k => XS.iloadN X0.here hx rfl (hb hby d2_2) rfl k) ?_
          refine own_go (U' := s₁.setTop (mkF m 4 #[.val (.ref a0), .val (.int (3 : Int32))] [(.ref a0), (.int (3 : Int32))])) (fun _ k => XS.aloadN X0.here hx rfl (hb hby d2_3) rfl rfl k) ?_
          have V43 := V_a
          obtain ⟨cl43, Ar43, q43, S43, Ng43, Hh43⟩ := V43
          have hl43 := len_of S43 Ng43
          refine own_go (U' := s₁.setTop (mkF m 5 #[.val (.ref a0), .val (.int (3 : Int32))] [(.int z), (.int (3 : Int32))])) (fun _ k => X0.arraylength hx (by rw [e0]; exact Ar43.1) (State.isArrayOf_alike hZ.alike Ar43.2.1) (g := (mkF m 4 #[.val (.ref a0), .val (.int (3 : Int32))] [(.ref a0), (.int (3 : Int32))])) rfl rfl (hb hby d2_4) _ (by rw [hl43]; exact k)) ?_
          by_cases hc5_44 : (3 : Int32) < z
          · refine own_go (U' := s₁.setTop (mkF m 8 #[.val (.ref a0), .val (.int (3 : Int32))] [])) (fun _ k => XS.icmpNo X0.here hx rfl (hb hby d2_5) rfl (tlt hc5_44).2.1 k) ?_
            refine own_go (U' := s₁.setTop (mkF m 9 #[.val (.ref a0), .val (.int (3 : Int32))] [(.ref a0)])) (fun _ k => XS.aloadN X0.here hx rfl (hb hby d2_8) rfl rfl k) ?_
            refine own_go (U' := s₁.setTop (mkF m 10 #[.val (.ref a0), .val (.int (3 : Int32))] [(.int (3 : Int32)), (.ref a0)])) (fun _ k => XS.iloadN X0.here hx rfl (hb hby d2_9) rfl k) ?_
            have V45 := V_a
            obtain ⟨cl45, Ar45, q45, S45, Ng45, Hh45⟩ := V45
            have hj45 : ¬ (3 : Int32) < 0 ∧ (3 : Int32) < z := ⟨by decide, hc5_44⟩
            have hat45 := Hh45 _ hj45.1 hj45.2
            refine own_go (U' := s₁.setTop (mkF m 11 #[.val (.ref a0), .val (.int (3 : Int32))] [(.int (f (3 : Int32)))])) (fun _ k => X0.baloadBytes hx (j := (3 : Int32)) (v := (.int (f (3 : Int32)))) (by rw [e0]; exact Ar45.1) (State.isArrayOf_alike hZ.alike Ar45.2.1) Ar45.2.2 (inb_of S45 hj45) hat45 (g := (mkF m 10 #[.val (.ref a0), .val (.int (3 : Int32))] [(.int (3 : Int32)), (.ref a0)])) rfl rfl (hb hby d2_10) _ k) ?_
            refine own_go (U' := s₁.setTop (mkF m 13 #[.val (.ref a0), .val (.int (3 : Int32))] [(.int (10 : Int32)), (.int (f (3 : Int32)))])) (fun _ k => XS.bipush X0.here hx rfl (hb hby d2_11) k) ?_
            by_cases hc13_46 : (f (3 : Int32)) = (10 : Int32)
            · refine own_go (U' := s₁.setTop (mkF m 16 #[.val (.ref a0), .val (.int (3 : Int32))] [])) (fun _ k => XS.icmpNo X0.here hx rfl (hb hby d2_13) rfl (teq hc13_46).2 k) ?_
              refine own_go (U' := s₁.setTop (mkF m 17 #[.val (.ref a0), .val (.int (3 : Int32))] [(.ref a0)])) (fun _ k => XS.aloadN X0.here hx rfl (hb hby d2_16) rfl rfl k) ?_
              refine own_go (U' := s₁.setTop (mkF m 18 #[.val (.ref a0), .val (.int (3 : Int32))] [(.int (3 : Int32)), (.ref a0)])) (fun _ k => XS.iloadN X0.here hx rfl (hb hby d2_17) rfl k) ?_
              refine own_go (U' := s₁.setTop (mkF m 19 #[.val (.ref a0), .val (.int (3 : Int32))] [(.int (1 : Int32)), (.int (3 : Int32)), (.ref a0)])) (fun _ k => XS.iconst X0.here hx rfl (hb hby d2_18) k) ?_
              refine own_go (U' := s₁.setTop (mkF m 20 #[.val (.ref a0), .val (.int (3 : Int32))] [(.int (2 : Int32)), (.ref a0)])) (fun _ k => XS.isub X0.here hx rfl (hb hby d2_19) rfl k) ?_
              have V47 := V_a
              obtain ⟨cl47, Ar47, q47, S47, Ng47, Hh47⟩ := V47
              have hj47 : ¬ (2 : Int32) < 0 ∧ (2 : Int32) < z := ⟨by decide, hc5_39⟩
              have hat47 := Hh47 _ hj47.1 hj47.2
              refine own_go (U' := s₁.setTop (mkF m 21 #[.val (.ref a0), .val (.int (3 : Int32))] [(.int (f (2 : Int32)))])) (fun _ k => X0.baloadBytes hx (j := (2 : Int32)) (v := (.int (f (2 : Int32)))) (by rw [e0]; exact Ar47.1) (State.isArrayOf_alike hZ.alike Ar47.2.1) Ar47.2.2 (inb_of S47 hj47) hat47 (g := (mkF m 20 #[.val (.ref a0), .val (.int (3 : Int32))] [(.int (2 : Int32)), (.ref a0)])) rfl rfl (hb hby d2_20) _ k) ?_
              refine own_go (U' := s₁.setTop (mkF m 23 #[.val (.ref a0), .val (.int (3 : Int32))] [(.int (10 : Int32)), (.int (f (2 : Int32)))])) (fun _ k => XS.bipush X0.here hx rfl (hb hby d2_21) k) ?_
              refine own_go (U' := s₁.setTop (mkF m 26 #[.val (.ref a0), .val (.int (3 : Int32))] [])) (fun _ k => XS.icmpNo X0.here hx rfl (hb hby d2_23) rfl (teq hc13_41).2 k) ?_
              refine own_go (U' := s₁.setTop (mkF m 27 #[.val (.ref a0), .val (.int (3 : Int32))] [(.int (3 : Int32))])) (fun _ k => XS.iloadN X0.here hx rfl (hb hby d2_26) rfl k) ?_
              refine own_ret X0 (v := (some (.int (3 : Int32)))) hlk (fun h => by rw [Bd.returns] at h; cases h) (by decide) (by decide) (fun fs hr => own_retI X0 hx Bd.returns (hb hby d2_27) hr) ?_
              show (Q2 Z a0 k1 z f h0 n0) _ s₁.heap _
              rw [e0]
              exact ⟨by first | (simp only [f_2, if_pos hc5_7, if_neg hc13_9, if_pos hc5_39, if_pos hc13_41, if_pos hc5_44, if_pos hc13_46]; done) | rfl | (simp [f_2, if_pos hc5_7, if_neg hc13_9, if_pos hc5_39, if_pos hc13_41, if_pos hc5_44, if_pos hc13_46]; done), N0, rfl⟩
            · refine own_go (U' := s₁.setTop (mkF m 28 #[.val (.ref a0), .val (.int (3 : Int32))] [])) (fun _ k => XS.icmpYes X0.here hx rfl (pc0 := 13) (pc' := 28) rfl (hb hby d2_13) rfl (feq hc13_46).2 (by decide) (by decide) k) ?_
              refine own_go (U' := s₁.setTop (mkF m 31 #[.val (.ref a0), .val (.int (4 : Int32))] [])) (fun _ k => XS.iinc X0.here hx rfl (hb hby d2_28) rfl (l' := #[.val (.ref a0), .val (.int (4 : Int32))]) rfl k) ?_
              refine own_go (U' := s₁.setTop (mkF m 2 #[.val (.ref a0), .val (.int (4 : Int32))] [])) (fun _ k => XS.goto X0.here hx rfl (pc0 := 31) (pc' := 2) rfl (hb hby d2_31) (by decide) (by decide) k) ?_
              refine own_go (U' := s₁.setTop (mkF m 3 #[.val (.ref a0), .val (.int (4 : Int32))] [(.int (4 : Int32))])) (fun _ k => XS.iloadN X0.here hx rfl (hb hby d2_2) rfl k) ?_
              refine own_go (U' := s₁.setTop (mkF m 4 #[.val (.ref a0), .val (.int (4 : Int32))] [(.ref a0), (.int (4 : Int32))])) (fun _ k => XS.aloadN X0.here hx rfl (hb hby d2_3) rfl rfl k) ?_
              have V48 := V_a
              obtain ⟨cl48, Ar48, q48, S48, Ng48, Hh48⟩ := V48
              have hl48 := len_of S48 Ng48
              refine own_go (U' := s₁.setTop (mkF m 5 #[.val (.ref a0), .val (.int (4 : Int32))] [(.int z), (.int (4 : Int32))])) (fun _ k => X0.arraylength hx (by rw [e0]; exact Ar48.1) (State.isArrayOf_alike hZ.alike Ar48.2.1) (g := (mkF m 4 #[.val (.ref a0), .val (.int (4 : Int32))] [(.ref a0), (.int (4 : Int32))])) rfl rfl (hb hby d2_4) _ (by rw [hl48]; exact k)) ?_
              by_cases hc5_49 : (4 : Int32) < z
              · refine own_go (U' := s₁.setTop (mkF m 8 #[.val (.ref a0), .val (.int (4 : Int32))] [])) (fun _ k => XS.icmpNo X0.here hx rfl (hb hby d2_5) rfl (tlt hc5_49).2.1 k) ?_
                refine own_go (U' := s₁.setTop (mkF m 9 #[.val (.ref a0), .val (.int (4 : Int32))] [(.ref a0)])) (fun _ k => XS.aloadN X0.here hx rfl (hb hby d2_8) rfl rfl k) ?_
                refine own_go (U' := s₁.setTop (mkF m 10 #[.val (.ref a0), .val (.int (4 : Int32))] [(.int (4 : Int32)), (.ref a0)])) (fun _ k => XS.iloadN X0.here hx rfl (hb hby d2_9) rfl k) ?_
                have V50 := V_a
                obtain ⟨cl50, Ar50, q50, S50, Ng50, Hh50⟩ := V50
                have hj50 : ¬ (4 : Int32) < 0 ∧ (4 : Int32) < z := ⟨by decide, hc5_49⟩
                have hat50 := Hh50 _ hj50.1 hj50.2
                refine own_go (U' := s₁.setTop (mkF m 11 #[.val (.ref a0), .val (.int (4 : Int32))] [(.int (f (4 : Int32)))])) (fun _ k => X0.baloadBytes hx (j := (4 : Int32)) (v := (.int (f (4 : Int32)))) (by rw [e0]; exact Ar50.1) (State.isArrayOf_alike hZ.alike Ar50.2.1) Ar50.2.2 (inb_of S50 hj50) hat50 (g := (mkF m 10 #[.val (.ref a0), .val (.int (4 : Int32))] [(.int (4 : Int32)), (.ref a0)])) rfl rfl (hb hby d2_10) _ k) ?_
                refine own_go (U' := s₁.setTop (mkF m 13 #[.val (.ref a0), .val (.int (4 : Int32))] [(.int (10 : Int32)), (.int (f (4 : Int32)))])) (fun _ k => XS.bipush X0.here hx rfl (hb hby d2_11) k) ?_
                by_cases hc13_51 : (f (4 : Int32)) = (10 : Int32)
                · refine own_go (U' := s₁.setTop (mkF m 16 #[.val (.ref a0), .val (.int (4 : Int32))] [])) (fun _ k => XS.icmpNo X0.here hx rfl (hb hby d2_13) rfl (teq hc13_51).2 k) ?_
                  refine own_go (U' := s₁.setTop (mkF m 17 #[.val (.ref a0), .val (.int (4 : Int32))] [(.ref a0)])) (fun _ k => XS.aloadN X0.here hx rfl (hb hby d2_16) rfl rfl k) ?_
                  refine own_go (U' := s₁.setTop (mkF m 18 #[.val (.ref a0), .val (.int (4 : Int32))] [(.int (4 : Int32)), (.ref a0)])) (fun _ k => XS.iloadN X0.here hx rfl (hb hby d2_17) rfl k) ?_
                  refine own_go (U' := s₁.setTop (mkF m 19 #[.val (.ref a0), .val (.int (4 : Int32))] [(.int (1 : Int32)), (.int (4 : Int32)), (.ref a0)])) (fun _ k => XS.iconst X0.here hx rfl (hb hby d2_18) k) ?_
                  refine own_go (U' := s₁.setTop (mkF m 20 #[.val (.ref a0), .val (.int (4 : Int32))] [(.int (3 : Int32)), (.ref a0)])) (fun _ k => XS.isub X0.here hx rfl (hb hby d2_19) rfl k) ?_
                  have V52 := V_a
                  obtain ⟨cl52, Ar52, q52, S52, Ng52, Hh52⟩ := V52
                  have hj52 : ¬ (3 : Int32) < 0 ∧ (3 : Int32) < z := ⟨by decide, hc5_44⟩
                  have hat52 := Hh52 _ hj52.1 hj52.2
                  refine own_go (U' := s₁.setTop (mkF m 21 #[.val (.ref a0), .val (.int (4 : Int32))] [(.int (f (3 : Int32)))])) (fun _ k => X0.baloadBytes hx (j := (3 : Int32)) (v := (.int (f (3 : Int32)))) (by rw [e0]; exact Ar52.1) (State.isArrayOf_alike hZ.alike Ar52.2.1) Ar52.2.2 (inb_of S52 hj52) hat52 (g := (mkF m 20 #[.val (.ref a0), .val (.int (4 : Int32))] [(.int (3 : Int32)), (.ref a0)])) rfl rfl (hb hby d2_20) _ k) ?_
                  refine own_go (U' := s₁.setTop (mkF m 23 #[.val (.ref a0), .val (.int (4 : Int32))] [(.int (10 : Int32)), (.int (f (3 : Int32)))])) (fun _ k => XS.bipush X0.here hx rfl (hb hby d2_21) k) ?_
                  refine own_go (U' := s₁.setTop (mkF m 28 #[.val (.ref a0), .val (.int (4 : Int32))] [])) (fun _ k => XS.icmpYes X0.here hx rfl (pc0 := 23) (pc' := 28) rfl (hb hby d2_23) rfl (feq hc13_46).2 (by decide) (by decide) k) ?_
                  refine own_go (U' := s₁.setTop (mkF m 31 #[.val (.ref a0), .val (.int (5 : Int32))] [])) (fun _ k => XS.iinc X0.here hx rfl (hb hby d2_28) rfl (l' := #[.val (.ref a0), .val (.int (5 : Int32))]) rfl k) ?_
                  refine own_go (U' := s₁.setTop (mkF m 2 #[.val (.ref a0), .val (.int (5 : Int32))] [])) (fun _ k => XS.goto X0.here hx rfl (pc0 := 31) (pc' := 2) rfl (hb hby d2_31) (by decide) (by decide) k) ?_
                  refine own_go (U' := s₁.setTop (mkF m 3 #[.val (.ref a0), .val (.int (5 : Int32))] [(.int (5 : Int32))])) (fun _ k => XS.iloadN X0.here hx rfl (hb hby d2_2) rfl k) ?_
                  refine own_go (U' := s₁.setTop (mkF m 4 #[.val (.ref a0), .val (.int (5 : Int32))] [(.ref a0), (.int (5 : Int32))])) (fun _ k => XS.aloadN X0.here hx rfl (hb hby d2_3) rfl rfl k) ?_
                  have V53 := V_a
                  obtain ⟨cl53, Ar53, q53, S53, Ng53, Hh53⟩ := V53
                  have hl53 := len_of S53 Ng53
                  refine own_go (U' := s₁.setTop (mkF m 5 #[.val (.ref a0), .val (.int (5 : Int32))] [(.int z), (.int (5 : Int32))])) (fun _ k => X0.arraylength hx (by rw [e0]; exact Ar53.1) (State.isArrayOf_alike hZ.alike Ar53.2.1) (g := (mkF m 4 #[.val (.ref a0), .val (.int (5 : Int32))] [(.ref a0), (.int (5 : Int32))])) rfl rfl (hb hby d2_4) _ (by rw [hl53]; exact k)) ?_
                  have hc5_54 : ¬ ((5 : Int32) < z) := own_n5 h6
                  refine own_go (U' := s₁.setTop (mkF m 34 #[.val (.ref a0), .val (.int (5 : Int32))] [])) (fun _ k => XS.icmpYes X0.here hx rfl (pc0 := 5) (pc' := 34) rfl (hb hby d2_5) rfl (flt hc5_54).2.1 (by decide) (by decide) k) ?_
                  refine own_go (U' := s₁.setTop (mkF m 35 #[.val (.ref a0), .val (.int (5 : Int32))] [(.int (-1 : Int32))])) (fun _ k => XS.iconst X0.here hx rfl (hb hby d2_34) k) ?_
                  refine own_ret X0 (v := (some (.int (-1 : Int32)))) hlk (fun h => by rw [Bd.returns] at h; cases h) (by decide) (by decide) (fun fs hr => own_retI X0 hx Bd.returns (hb hby d2_35) hr) ?_
                  show (Q2 Z a0 k1 z f h0 n0) _ s₁.heap _
                  rw [e0]
                  exact ⟨by first | (simp only [f_2, if_pos hc5_7, if_neg hc13_9, if_pos hc5_39, if_pos hc13_41, if_pos hc5_44, if_neg hc13_46, if_pos hc5_49, if_pos hc13_51, if_neg hc5_54]; done) | rfl | (simp [f_2, if_pos hc5_7, if_neg hc13_9, if_pos hc5_39, if_pos hc13_41, if_pos hc5_44, if_neg hc13_46, if_pos hc5_49, if_pos hc13_51, if_neg hc5_54]; done), N0, rfl⟩
                · refine own_go (U' := s₁.setTop (mkF m 28 #[.val (.ref a0), .val (.int (4 : Int32))] [])) (fun _ k => XS.icmpYes X0.here hx rfl (pc0 := 13) (pc' := 28) rfl (hb hby d2_13) rfl (feq hc13_51).2 (by decide) (by decide) k) ?_
                  refine own_go (U' := s₁.setTop (mkF m 31 #[.val (.ref a0), .val (.int (5 : Int32))] [])) (fun _ k => XS.iinc X0.here hx rfl (hb hby d2_28) rfl (l' := #[.val (.ref a0), .val (.int (5 : Int32))]) rfl k) ?_
                  refine own_go (U' := s₁.setTop (mkF m 2 #[.val (.ref a0), .val (.int (5 : Int32))] [])) (fun _ k => XS.goto X0.here hx rfl (pc0 := 31) (pc' := 2) rfl (hb hby d2_31) (by decide) (by decide) k) ?_
                  refine own_go (U' := s₁.setTop (mkF m 3 #[.val (.ref a0), .val (.int (5 : Int32))] [(.int (5 : Int32))])) (fun _ k => XS.iloadN X0.here hx rfl (hb hby d2_2) rfl k) ?_
                  refine own_go (U' := s₁.setTop (mkF m 4 #[.val (.ref a0), .val (.int (5 : Int32))] [(.ref a0), (.int (5 : Int32))])) (fun _ k => XS.aloadN X0.here hx rfl (hb hby d2_3) rfl rfl k) ?_
                  have V55 := V_a
                  obtain ⟨cl55, Ar55, q55, S55, Ng55, Hh55⟩ := V55
                  have hl55 := len_of S55 Ng55
                  refine own_go (U' := s₁.setTop (mkF m 5 #[.val (.ref a0), .val (.int (5 : Int32))] [(.int z), (.int (5 : Int32))])) (fun _ k => X0.arraylength hx (by rw [e0]; exact Ar55.1) (State.isArrayOf_alike hZ.alike Ar55.2.1) (g := (mkF m 4 #[.val (.ref a0), .val (.int (5 : Int32))] [(.ref a0), (.int (5 : Int32))])) rfl rfl (hb hby d2_4) _ (by rw [hl55]; exact k)) ?_
                  have hc5_56 : ¬ ((5 : Int32) < z) := own_n5 h6
                  refine own_go (U' := s₁.setTop (mkF m 34 #[.val (.ref a0), .val (.int (5 : Int32))] [])) (fun _ k => XS.icmpYes X0.here hx rfl (pc0 := 5) (pc' := 34) rfl (hb hby d2_5) rfl (flt hc5_56).2.1 (by decide) (by decide) k) ?_
                  refine own_go (U' := s₁.setTop (mkF m 35 #[.val (.ref a0), .val (.int (5 : Int32))] [(.int (-1 : Int32))])) (fun _ k => XS.iconst X0.here hx rfl (hb hby d2_34) k) ?_
                  refine own_ret X0 (v := (some (.int (-1 : Int32)))) hlk (fun h => by rw [Bd.returns] at h; cases h) (by decide) (by decide) (fun fs hr => own_retI X0 hx Bd.returns (hb hby d2_35) hr) ?_
                  show (Q2 Z a0 k1 z f h0 n0) _ s₁.heap _
                  rw [e0]
                  exact ⟨by first | (simp only [f_2, if_pos hc5_7, if_neg hc13_9, if_pos hc5_39, if_pos hc13_41, if_pos hc5_44, if_neg hc13_46, if_pos hc5_49, if_neg hc13_51, if_neg hc5_56]; done) | rfl | (simp [f_2, if_pos hc5_7, if_neg hc13_9, if_pos hc5_39, if_pos hc13_41, if_pos hc5_44, if_neg hc13_46, if_pos hc5_49, if_neg hc13_51, if_neg hc5_56]; done), N0, rfl⟩
              · refine own_go (U' := s₁.setTop (mkF m 34 #[.val (.ref a0), .val (.int (4 : Int32))] [])) (fun _ k => XS.icmpYes X0.here hx rfl (pc0 := 5) (pc' := 34) rfl (hb hby d2_5) rfl (flt hc5_49).2.1 (by decide) (by decide) k) ?_
                refine own_go (U' := s₁.setTop (mkF m 35 #[.val (.ref a0), .val (.int (4 : Int32))] [(.int (-1 : Int32))])) (fun _ k => XS.iconst X0.here hx rfl (hb hby d2_34) k) ?_
                refine own_ret X0 (v := (some (.int (-1 : Int32)))) hlk (fun h => by rw [Bd.returns] at h; cases h) (by decide) (by decide) (fun fs hr => own_retI X0 hx Bd.returns (hb hby d2_35) hr) ?_
                show (Q2 Z a0 k1 z f h0 n0) _ s₁.heap _
                rw [e0]
                exact ⟨by first | (simp only [f_2, if_pos hc5_7, if_neg hc13_9, if_pos hc5_39, if_pos hc13_41, if_pos hc5_44, if_neg hc13_46, if_neg hc5_49]; done) | rfl | (simp [f_2, if_pos hc5_7, if_neg hc13_9, if_pos hc5_39, if_pos hc13_41, if_pos hc5_44, if_neg hc13_46, if_neg hc5_49]; done), N0, rfl⟩
          · refine own_go (U' := s₁.setTop (mkF m 34 #[.val (.ref a0), .val (.int (3 : Int32))] [])) (fun _ k => XS.icmpYes X0.here hx rfl (pc0 := 5) (pc' := 34) rfl (hb hby d2_5) rfl (flt hc5_44).2.1 (by decide) (by decide) k) ?_
            refine own_go (U' := s₁.setTop (mkF m 35 #[.val (.ref a0), .val (.int (3 : Int32))] [(.int (-1 : Int32))])) (fun _ k => XS.iconst X0.here hx rfl (hb hby d2_34) k) ?_
            refine own_ret X0 (v := (some (.int (-1 : Int32)))) hlk (fun h => by rw [Bd.returns] at h; cases h) (by decide) (by decide) (fun fs hr => own_retI X0 hx Bd.returns (hb hby d2_35) hr) ?_
            show (Q2 Z a0 k1 z f h0 n0) _ s₁.heap _
            rw [e0]
            exact ⟨by first | (simp only [f_2, if_pos hc5_7, if_neg hc13_9, if_pos hc5_39, if_pos hc13_41, if_neg hc5_44]; done) | rfl | (simp [f_2, if_pos hc5_7, if_neg hc13_9, if_pos hc5_39, if_pos hc13_41, if_neg hc5_44]; done), N0, rfl⟩
        · refine own_go (U' := s₁.setTop (mkF m 28 #[.val (.ref a0), .val (.int (2 : Int32))] [])) (fun _ k => XS.icmpYes X0.here hx rfl (pc0 := 13) (pc' := 28) rfl (hb hby d2_13) rfl (feq hc13_41).2 (by decide) (by decide) k) ?_
          refine own_go (U' := s₁.setTop (mkF m 31 #[.val (.ref a0), .val (.int (3 : Int32))] [])) (fun _ k => XS.iinc X0.here hx rfl (hb hby d2_28) rfl (l' := #[.val (.ref a0), .val (.int (3 : Int32))]) rfl k) ?_
          refine own_go (U' := s₁.setTop (mkF m 2 #[.val (.ref a0), .val (.int (3 : Int32))] [])) (fun _ k => XS.goto X0.here hx rfl (pc0 := 31) (pc' := 2) rfl (hb hby d2_31) (by decide) (by decide) k) ?_
          refine own_go (U' := s₁.setTop (mkF m 3 #[.val (.ref a0), .val (.int (3 : Int32))] [(.int (3 : Int32))])) (fun _ k => XS.iloadN X0.here hx rfl (hb hby d2_2) rfl k) ?_
          refine own_go (U' := s₁.setTop (mkF m 4 #[.val (.ref a0), .val (.int (3 : Int32))] [(.ref a0), (.int (3 : Int32))])) (fun _ k => XS.aloadN X0.here hx rfl (hb hby d2_3) rfl rfl k) ?_
          have V57 := V_a
          obtain ⟨cl57, Ar57, q57, S57, Ng57, Hh57⟩ := V57
          have hl57 := len_of S57 Ng57
          refine own_go (U' := s₁.setTop (mkF m 5 #[.val (.ref a0), .val (.int (3 : Int32))] [(.int z), (.int (3 : Int32))])) (fun _ k => X0.arraylength hx (by rw [e0]; exact Ar57.1) (State.isArrayOf_alike hZ.alike Ar57.2.1) (g := (mkF m 4 #[.val (.ref a0), .val (.int (3 : Int32))] [(.ref a0), (.int (3 : Int32))])) rfl rfl (hb hby d2_4) _ (by rw [hl57]; exact k)) ?_
          by_cases hc5_58 : (3 : Int32) < z
          · refine own_go (U' := s₁.setTop (mkF m 8 #[.val (.ref a0), .val (.int (3 : Int32))] [])) (fun _ k => XS.icmpNo X0.here hx rfl (hb hby d2_5) rfl (tlt hc5_58).2.1 k) ?_
            refine own_go (U' := s₁.setTop (mkF m 9 #[.val (.ref a0), .val (.int (3 : Int32))] [(.ref a0)])) (fun _ k => XS.aloadN X0.here hx rfl (hb hby d2_8) rfl rfl k) ?_
            refine own_go (U' := s₁.setTop (mkF m 10 #[.val (.ref a0), .val (.int (3 : Int32))] [(.int (3 : Int32)), (.ref a0)])) (fun _ k => XS.iloadN X0.here hx rfl (hb hby d2_9) rfl k) ?_
            have V59 := V_a
            obtain ⟨cl59, Ar59, q59, S59, Ng59, Hh59⟩ := V59
            have hj59 : ¬ (3 : Int32) < 0 ∧ (3 : Int32) < z := ⟨by decide, hc5_58⟩
            have hat59 := Hh59 _ hj59.1 hj59.2
            refine own_go (U' := s₁.setTop (mkF m 11 #[.val (.ref a0), .val (.int (3 : Int32))] [(.int (f (3 : Int32)))])) (fun _ k => X0.baloadBytes hx (j := (3 : Int32)) (v := (.int (f (3 : Int32)))) (by rw [e0]; exact Ar59.1) (State.isArrayOf_alike hZ.alike Ar59.2.1) Ar59.2.2 (inb_of S59 hj59) hat59 (g := (mkF m 10 #[.val (.ref a0), .val (.int (3 : Int32))] [(.int (3 : Int32)), (.ref a0)])) rfl rfl (hb hby d2_10) _ k) ?_
            refine own_go (U' := s₁.setTop (mkF m 13 #[.val (.ref a0), .val (.int (3 : Int32))] [(.int (10 : Int32)), (.int (f (3 : Int32)))])) (fun _ k => XS.bipush X0.here hx rfl (hb hby d2_11) k) ?_
            by_cases hc13_60 : (f (3 : Int32)) = (10 : Int32)
            · refine own_go (U' := s₁.setTop (mkF m 16 #[.val (.ref a0), .val (.int (3 : Int32))] [])) (fun _ k => XS.icmpNo X0.here hx rfl (hb hby d2_13) rfl (teq hc13_60).2 k) ?_
              refine own_go (U' := s₁.setTop (mkF m 17 #[.val (.ref a0), .val (.int (3 : Int32))] [(.ref a0)])) (fun _ k => XS.aloadN X0.here hx rfl (hb hby d2_16) rfl rfl k) ?_
              refine own_go (U' := s₁.setTop (mkF m 18 #[.val (.ref a0), .val (.int (3 : Int32))] [(.int (3 : Int32)), (.ref a0)])) (fun _ k => XS.iloadN X0.here hx rfl (hb hby d2_17) rfl k) ?_
              refine own_go (U' := s₁.setTop (mkF m 19 #[.val (.ref a0), .val (.int (3 : Int32))] [(.int (1 : Int32)), (.int (3 : Int32)), (.ref a0)])) (fun _ k => XS.iconst X0.here hx rfl (hb hby d2_18) k) ?_
              refine own_go (U' := s₁.setTop (mkF m 20 #[.val (.ref a0), .val (.int (3 : Int32))] [(.int (2 : Int32)), (.ref a0)])) (fun _ k => XS.isub X0.here hx rfl (hb hby d2_19) rfl k) ?_
              have V61 := V_a
              obtain ⟨cl61, Ar61, q61, S61, Ng61, Hh61⟩ := V61
              have hj61 : ¬ (2 : Int32) < 0 ∧ (2 : Int32) < z := ⟨by decide, hc5_39⟩
              have hat61 := Hh61 _ hj61.1 hj61.2
              refine own_go (U' := s₁.setTop (mkF m 21 #[.val (.ref a0), .val (.int (3 : Int32))] [(.int (f (2 : Int32)))])) (fun _ k => X0.baloadBytes hx (j := (2 : Int32)) (v := (.int (f (2 : Int32)))) (by rw [e0]; exact Ar61.1) (State.isArrayOf_alike hZ.alike Ar61.2.1) Ar61.2.2 (inb_of S61 hj61) hat61 (g := (mkF m 20 #[.val (.ref a0), .val (.int (3 : Int32))] [(.int (2 : Int32)), (.ref a0)])) rfl rfl (hb hby d2_20) _ k) ?_
              refine own_go (U' := s₁.setTop (mkF m 23 #[.val (.ref a0), .val (.int (3 : Int32))] [(.int (10 : Int32)), (.int (f (2 : Int32)))])) (fun _ k => XS.bipush X0.here hx rfl (hb hby d2_21) k) ?_
              refine own_go (U' := s₁.setTop (mkF m 28 #[.val (.ref a0), .val (.int (3 : Int32))] [])) (fun _ k => XS.icmpYes X0.here hx rfl (pc0 := 23) (pc' := 28) rfl (hb hby d2_23) rfl (feq hc13_41).2 (by decide) (by decide) k) ?_
              refine own_go (U' := s₁.setTop (mkF m 31 #[.val (.ref a0), .val (.int (4 : Int32))] [])) (fun _ k => XS.iinc X0.here hx rfl (hb hby d2_28) rfl (l' := #[.val (.ref a0), .val (.int (4 : Int32))]) rfl k) ?_
              refine own_go (U' := s₁.setTop (mkF m 2 #[.val (.ref a0), .val (.int (4 : Int32))] [])) (fun _ k => XS.goto X0.here hx rfl (pc0 := 31) (pc' := 2) rfl (hb hby d2_31) (by decide) (by decide) k) ?_
              refine own_go (U' := s₁.setTop (mkF m 3 #[.val (.ref a0), .val (.int (4 : Int32))] [(.int (4 : Int32))])) (fun _ k => XS.iloadN X0.here hx rfl (hb hby d2_2) rfl k) ?_
              refine own_go (U' := s₁.setTop (mkF m 4 #[.val (.ref a0), .val (.int (4 : Int32))] [(.ref a0), (.int (4 : Int32))])) (fun _ k => XS.aloadN X0.here hx rfl (hb hby d2_3) rfl rfl k) ?_
              have V62 := V_a
              obtain ⟨cl62, Ar62, q62, S62, Ng62, Hh62⟩ := V62
              have hl62 := len_of S62 Ng62
              refine own_go (U' := s₁.setTop (mkF m 5 #[.val (.ref a0), .val (.int (4 : Int32))] [(.int z), (.int (4 : Int32))])) (fun _ k => X0.arraylength hx (by rw [e0]; exact Ar62.1) (State.isArrayOf_alike hZ.alike Ar62.2.1) (g := (mkF m 4 #[.val (.ref a0), .val (.int (4 : Int32))] [(.ref a0), (.int (4 : Int32))])) rfl rfl (hb hby d2_4) _ (by rw [hl62]; exact k)) ?_
              by_cases hc5_63 : (4 : Int32) < z
              · refine own_go (U' := s₁.setTop (mkF m 8 #[.val (.ref a0), .val (.int (4 : Int32))] [])) (fun _ k => XS.icmpNo X0.here hx rfl (hb hby d2_5) rfl (tlt hc5_63).2.1 k) ?_
                refine own_go (U' := s₁.setTop (mkF m 9 #[.val (.ref a0), .val (.int (4 : Int32))] [(.ref a0)])) (fun _ k => XS.aloadN X0.here hx rfl (hb hby d2_8) rfl rfl k) ?_
                refine own_go (U' := s₁.setTop (mkF m 10 #[.val (.ref a0), .val (.int (4 : Int32))] [(.int (4 : Int32)), (.ref a0)])) (fun _ k => XS.iloadN X0.here hx rfl (hb hby d2_9) rfl k) ?_
                have V64 := V_a
                obtain ⟨cl64, Ar64, q64, S64, Ng64, Hh64⟩ := V64
                have hj64 : ¬ (4 : Int32) < 0 ∧ (4 : Int32) < z := ⟨by decide, hc5_63⟩
                have hat64 := Hh64 _ hj64.1 hj64.2
                refine own_go (U' := s₁.setTop (mkF m 11 #[.val (.ref a0), .val (.int (4 : Int32))] [(.int (f (4 : Int32)))])) (fun _ k => X0.baloadBytes hx (j := (4 : Int32)) (v := (.int (f (4 : Int32)))) (by rw [e0]; exact Ar64.1) (State.isArrayOf_alike hZ.alike Ar64.2.1) Ar64.2.2 (inb_of S64 hj64) hat64 (g := (mkF m 10 #[.val (.ref a0), .val (.int (4 : Int32))] [(.int (4 : Int32)), (.ref a0)])) rfl rfl (hb hby d2_10) _ k) ?_
                refine own_go (U' := s₁.setTop (mkF m 13 #[.val (.ref a0), .val (.int (4 : Int32))] [(.int (10 : Int32)), (.int (f (4 : Int32)))])) (fun _ k => XS.bipush X0.here hx rfl (hb hby d2_11) k) ?_
                by_cases hc13_65 : (f (4 : Int32)) = (10 : Int32)
                · refine own_go (U' := s₁.setTop (mkF m 16 #[.val (.ref a0), .val (.int (4 : Int32))] [])) (fun _ k => XS.icmpNo X0.here hx rfl (hb hby d2_13) rfl (teq hc13_65).2 k) ?_
                  refine own_go (U' := s₁.setTop (mkF m 17 #[.val (.ref a0), .val (.int (4 : Int32))] [(.ref a0)])) (fun _ k => XS.aloadN X0.here hx rfl (hb hby d2_16) rfl rfl k) ?_
                  refine own_go (U' := s₁.setTop (mkF m 18 #[.val (.ref a0), .val (.int (4 : Int32))] [(.int (4 : Int32)), (.ref a0)])) (fun _ k => XS.iloadN X0.here hx rfl (hb hby d2_17) rfl k) ?_
                  refine own_go (U' := s₁.setTop (mkF m 19 #[.val (.ref a0), .val (.int (4 : Int32))] [(.int (1 : Int32)), (.int (4 : Int32)), (.ref a0)])) (fun _ k => XS.iconst X0.here hx rfl (hb hby d2_18) k) ?_
                  refine own_go (U' := s₁.setTop (mkF m 20 #[.val (.ref a0), .val (.int (4 : Int32))] [(.int (3 : Int32)), (.ref a0)])) (fun _ k => XS.isub X0.here hx rfl (hb hby d2_19) rfl k) ?_
                  have V66 := V_a
                  obtain ⟨cl66, Ar66, q66, S66, Ng66, Hh66⟩ := V66
                  have hj66 : ¬ (3 : Int32) < 0 ∧ (3 : Int32) < z := ⟨by decide, hc5_58⟩
                  have hat66 := Hh66 _ hj66.1 hj66.2
                  refine own_go (U' := s₁.setTop (mkF m 21 #[.val (.ref a0), .val (.int (4 : Int32))] [(.int (f (3 : Int32)))])) (fun _ k => X0.baloadBytes hx (j := (3 : Int32)) (v := (.int (f (3 : Int32)))) (by rw [e0]; exact Ar66.1) (State.isArrayOf_alike hZ.alike Ar66.2.1) Ar66.2.2 (inb_of S66 hj66) hat66 (g := (mkF m 20 #[.val (.ref a0), .val (.int (4 : Int32))] [(.int (3 : Int32)), (.ref a0)])) rfl rfl (hb hby d2_20) _ k) ?_
                  refine own_go (U' := s₁.setTop (mkF m 23 #[.val (.ref a0), .val (.int (4 : Int32))] [(.int (10 : Int32)), (.int (f (3 : Int32)))])) (fun _ k => XS.bipush X0.here hx rfl (hb hby d2_21) k) ?_
                  refine own_go (U' := s₁.setTop (mkF m 26 #[.val (.ref a0), .val (.int (4 : Int32))] [])) (fun _ k => XS.icmpNo X0.here hx rfl (hb hby d2_23) rfl (teq hc13_60).2 k) ?_
                  refine own_go (U' := s₁.setTop (mkF m 27 #[.val (.ref a0), .val (.int (4 : Int32))] [(.int (4 : Int32))])) (fun _ k => XS.iloadN X0.here hx rfl (hb hby d2_26) rfl k) ?_
                  refine own_ret X0 (v := (some (.int (4 : Int32)))) hlk (fun h => by rw [Bd.returns] at h; cases h) (by decide) (by decide) (fun fs hr => own_retI X0 hx Bd.returns (hb hby d2_27) hr) ?_
                  show (Q2 Z a0 k1 z f h0 n0) _ s₁.heap _
                  rw [e0]
                  exact ⟨by first | (simp only [f_2, if_pos hc5_7, if_neg hc13_9, if_pos hc5_39, if_neg hc13_41, if_pos hc5_58, if_pos hc13_60, if_pos hc5_63, if_pos hc13_65]; done) | rfl | (simp [f_2, if_pos hc5_7, if_neg hc13_9, if_pos hc5_39, if_neg hc13_41, if_pos hc5_58, if_pos hc13_60, if_pos hc5_63, if_pos hc13_65]; done), N0, rfl⟩
                · refine own_go (U' := s₁.setTop (mkF m 28 #[.val (.ref a0), .val (.int (4 : Int32))] [])) (fun _ k => XS.icmpYes X0.here hx rfl (pc0 := 13) (pc' := 28) rfl (hb hby d2_13) rfl (feq hc13_65).2 (by decide) (by decide) k) ?_
                  refine own_go (U' := s₁.setTop (mkF m 31 #[.val (.ref a0), .val (.int (5 : Int32))] [])) (fun _ k => XS.iinc X0.here hx rfl (hb hby d2_28) rfl (l' := #[.val (.ref a0), .val (.int (5 : Int32))]) rfl k) ?_
                  refine own_go (U' := s₁.setTop (mkF m 2 #[.val (.ref a0), .val (.int (5 : Int32))] [])) (fun _ k => XS.goto X0.here hx rfl (pc0 := 31) (pc' := 2) rfl (hb hby d2_31) (by decide) (by decide) k) ?_
                  refine own_go (U' := s₁.setTop (mkF m 3 #[.val (.ref a0), .val (.int (5 : Int32))] [(.int (5 : Int32))])) (fun _ k => XS.iloadN X0.here hx rfl (hb hby d2_2) rfl k) ?_
                  refine own_go (U' := s₁.setTop (mkF m 4 #[.val (.ref a0), .val (.int (5 : Int32))] [(.ref a0), (.int (5 : Int32))])) (fun _ k => XS.aloadN X0.here hx rfl (hb hby d2_3) rfl rfl k) ?_
                  have V67 := V_a
                  obtain ⟨cl67, Ar67, q67, S67, Ng67, Hh67⟩ := V67
                  have hl67 := len_of S67 Ng67
                  refine own_go (U' := s₁.setTop (mkF m 5 #[.val (.ref a0), .val (.int (5 : Int32))] [(.int z), (.int (5 : Int32))])) (fun _ k => X0.arraylength hx (by rw [e0]; exact Ar67.1) (State.isArrayOf_alike hZ.alike Ar67.2.1) (g := (mkF m 4 #[.val (.ref a0), .val (.int (5 : Int32))] [(.ref a0), (.int (5 : Int32))])) rfl rfl (hb hby d2_4) _ (by rw [hl67]; exact k)) ?_
                  have hc5_68 : ¬ ((5 : Int32) < z) := own_n5 h6
                  refine own_go (U' := s₁.setTop (mkF m 34 #[.val (.ref a0), .val (.int (5 : Int32))] [])) (fun _ k => XS.icmpYes X0.here hx rfl (pc0 := 5) (pc' := 34) rfl (hb hby d2_5) rfl (flt hc5_68).2.1 (by decide) (by decide) k) ?_
                  refine own_go (U' := s₁.setTop (mkF m 35 #[.val (.ref a0), .val (.int (5 : Int32))] [(.int (-1 : Int32))])) (fun _ k => XS.iconst X0.here hx rfl (hb hby d2_34) k) ?_
                  refine own_ret X0 (v := (some (.int (-1 : Int32)))) hlk (fun h => by rw [Bd.returns] at h; cases h) (by decide) (by decide) (fun fs hr => own_retI X0 hx Bd.returns (hb hby d2_35) hr) ?_
                  show (Q2 Z a0 k1 z f h0 n0) _ s₁.heap _
                  rw [e0]
                  exact ⟨by first | (simp only [f_2, if_pos hc5_7, if_neg hc13_9, if_pos hc5_39, if_neg hc13_41, if_pos hc5_58, if_pos hc13_60, if_pos hc5_63, if_neg hc13_65, if_neg hc5_68]; done) | rfl | (simp [f_2, if_pos hc5_7, if_neg hc13_9, if_pos hc5_39, if_neg hc13_41, if_pos hc5_58, if_pos hc13_60, if_pos hc5_63, if_neg hc13_65, if_neg hc5_68]; done), N0, rfl⟩
              · refine own_go (U' := s₁.setTop (mkF m 34 #[.val (.ref a0), .val (.int (4 : Int32))] [])) (fun _ k => XS.icmpYes X0.here hx rfl (pc0 := 5) (pc' := 34) rfl (hb hby d2_5) rfl (flt hc5_63).2.1 (by decide) (by decide) k) ?_
                refine own_go (U' := s₁.setTop (mkF m 35 #[.val (.ref a0), .val (.int (4 : Int32))] [(.int (-1 : Int32))])) (fun _ k => XS.iconst X0.here hx rfl (hb hby d2_34) k) ?_
                refine own_ret X0 (v := (some (.int (-1 : Int32)))) hlk (fun h => by rw [Bd.returns] at h; cases h) (by decide) (by decide) (fun fs hr => own_retI X0 hx Bd.returns (hb hby d2_35) hr) ?_
                show (Q2 Z a0 k1 z f h0 n0) _ s₁.heap _
                rw [e0]
                exact ⟨by first | (simp only [f_2, if_pos hc5_7, if_neg hc13_9, if_pos hc5_39, if_neg hc13_41, if_pos hc5_58, if_pos hc13_60, if_neg hc5_63]; done) | rfl | (simp [f_2, if_pos hc5_7, if_neg hc13_9, if_pos hc5_39, if_neg hc13_41, if_pos hc5_58, if_pos hc13_60, if_neg hc5_63]; done), N0, rfl⟩
            · refine own_go (U' := s₁.setTop (mkF m 28 #[.val (.ref a0), .val (.int (3 : Int32))] [])) (fun _ k => XS.icmpYes X0.here hx rfl (pc0 := 13) (pc' := 28) rfl (hb hby d2_13) rfl (feq hc13_60).2 (by decide) (by decide) k) ?_
              refine own_go (U' := s₁.setTop (mkF m 31 #[.val (.ref a0), .val (.int (4 : Int32))] [])) (fun _ k => XS.iinc X0.here hx rfl (hb hby d2_28) rfl (l' := #[.val (.ref a0), .val (.int (4 : Int32))]) rfl k) ?_
              refine own_go (U' := s₁.setTop (mkF m 2 #[.val (.ref a0), .val (.int (4 : Int32))] [])) (fun _ k => XS.goto X0.here hx rfl (pc0 := 31) (pc' := 2) rfl (hb hby d2_31) (by decide) (by decide) k) ?_
              refine own_go (U' := s₁.setTop (mkF m 3 #[.val (.ref a0), .val (.int (4 : Int32))] [(.int (4 : Int32))])) (fun _ k => XS.iloadN X0.here hx rfl (hb hby d2_2) rfl k) ?_
              refine own_go (U' := s₁.setTop (mkF m 4 #[.val (.ref a0), .val (.int (4 : Int32))] [(.ref a0), (.int (4 : Int32))])) (fun _ k => XS.aloadN X0.here hx rfl (hb hby d2_3) rfl rfl k) ?_
              have V69 := V_a
              obtain ⟨cl69, Ar69, q69, S69, Ng69, Hh69⟩ := V69
              have hl69 := len_of S69 Ng69
              refine own_go (U' := s₁.setTop (mkF m 5 #[.val (.ref a0), .val (.int (4 : Int32))] [(.int z), (.int (4 : Int32))])) (fun _ k => X0.arraylength hx (by rw [e0]; exact Ar69.1) (State.isArrayOf_alike hZ.alike Ar69.2.1) (g := (mkF m 4 #[.val (.ref a0), .val (.int (4 : Int32))] [(.ref a0), (.int (4 : Int32))])) rfl rfl (hb hby d2_4) _ (by rw [hl69]; exact k)) ?_
              by_cases hc5_70 : (4 : Int32) < z
              · refine own_go (U' := s₁.setTop (mkF m 8 #[.val (.ref a0), .val (.int (4 : Int32))] [])) (fun _ k => XS.icmpNo X0.here hx rfl (hb hby d2_5) rfl (tlt hc5_70).2.1 k) ?_
                refine own_go (U' := s₁.setTop (mkF m 9 #[.val (.ref a0), .val (.int (4 : Int32))] [(.ref a0)])) (fun _ k => XS.aloadN X0.here hx rfl (hb hby d2_8) rfl rfl k) ?_
                refine own_go (U' := s₁.setTop (mkF m 10 #[.val (.ref a0), .val (.int (4 : Int32))] [(.int (4 : Int32)), (.ref a0)])) (fun _ k => XS.iloadN X0.here hx rfl (hb hby d2_9) rfl k) ?_
                have V71 := V_a
                obtain ⟨cl71, Ar71, q71, S71, Ng71, Hh71⟩ := V71
                have hj71 : ¬ (4 : Int32) < 0 ∧ (4 : Int32) < z := ⟨by decide, hc5_70⟩
                have hat71 := Hh71 _ hj71.1 hj71.2
                refine own_go (U' := s₁.setTop (mkF m 11 #[.val (.ref a0), .val (.int (4 : Int32))] [(.int (f (4 : Int32)))])) (fun _ k => X0.baloadBytes hx (j := (4 : Int32)) (v := (.int (f (4 : Int32)))) (by rw [e0]; exact Ar71.1) (State.isArrayOf_alike hZ.alike Ar71.2.1) Ar71.2.2 (inb_of S71 hj71) hat71 (g := (mkF m 10 #[.val (.ref a0), .val (.int (4 : Int32))] [(.int (4 : Int32)), (.ref a0)])) rfl rfl (hb hby d2_10) _ k) ?_
                refine own_go (U' := s₁.setTop (mkF m 13 #[.val (.ref a0), .val (.int (4 : Int32))] [(.int (10 : Int32)), (.int (f (4 : Int32)))])) (fun _ k => XS.bipush X0.here hx rfl (hb hby d2_11) k) ?_
                by_cases hc13_72 : (f (4 : Int32)) = (10 : Int32)
                · refine own_go (U' := s₁.setTop (mkF m 16 #[.val (.ref a0), .val (.int (4 : Int32))] [])) (fun _ k => XS.icmpNo X0.here hx rfl (hb hby d2_13) rfl (teq hc13_72).2 k) ?_
                  refine own_go (U' := s₁.setTop (mkF m 17 #[.val (.ref a0), .val (.int (4 : Int32))] [(.ref a0)])) (fun _ k => XS.aloadN X0.here hx rfl (hb hby d2_16) rfl rfl k) ?_
                  refine own_go (U' := s₁.setTop (mkF m 18 #[.val (.ref a0), .val (.int (4 : Int32))] [(.int (4 : Int32)), (.ref a0)])) (fun _ k => XS.iloadN X0.here hx rfl (hb hby d2_17) rfl k) ?_
                  refine own_go (U' := s₁.setTop (mkF m 19 #[.val (.ref a0), .val (.int (4 : Int32))] [(.int (1 : Int32)), (.int (4 : Int32)), (.ref a0)])) (fun _ k => XS.iconst X0.here hx rfl (hb hby d2_18) k) ?_
                  refine own_go (U' := s₁.setTop (mkF m 20 #[.val (.ref a0), .val (.int (4 : Int32))] [(.int (3 : Int32)), (.ref a0)])) (fun _ k => XS.isub X0.here hx rfl (hb hby d2_19) rfl k) ?_
                  have V73 := V_a
                  obtain ⟨cl73, Ar73, q73, S73, Ng73, Hh73⟩ := V73
                  have hj73 : ¬ (3 : Int32) < 0 ∧ (3 : Int32) < z := ⟨by decide, hc5_58⟩
                  have hat73 := Hh73 _ hj73.1 hj73.2
                  refine own_go (U' := s₁.setTop (mkF m 21 #[.val (.ref a0), .val (.int (4 : Int32))] [(.int (f (3 : Int32)))])) (fun _ k => X0.baloadBytes hx (j := (3 : Int32)) (v := (.int (f (3 : Int32)))) (by rw [e0]; exact Ar73.1) (State.isArrayOf_alike hZ.alike Ar73.2.1) Ar73.2.2 (inb_of S73 hj73) hat73 (g := (mkF m 20 #[.val (.ref a0), .val (.int (4 : Int32))] [(.int (3 : Int32)), (.ref a0)])) rfl rfl (hb hby d2_20) _ k) ?_
                  refine own_go (U' := s₁.setTop (mkF m 23 #[.val (.ref a0), .val (.int (4 : Int32))] [(.int (10 : Int32)), (.int (f (3 : Int32)))])) (fun _ k => XS.bipush X0.here hx rfl (hb hby d2_21) k) ?_
                  refine own_go (U' := s₁.setTop (mkF m 28 #[.val (.ref a0), .val (.int (4 : Int32))] [])) (fun _ k => XS.icmpYes X0.here hx rfl (pc0 := 23) (pc' := 28) rfl (hb hby d2_23) rfl (feq hc13_60).2 (by decide) (by decide) k) ?_
                  refine own_go (U' := s₁.setTop (mkF m 31 #[.val (.ref a0), .val (.int (5 : Int32))] [])) (fun _ k => XS.iinc X0.here hx rfl (hb hby d2_28) rfl (l' := #[.val (.ref a0), .val (.int (5 : Int32))]) rfl k) ?_
                  refine own_go (U' := s₁.setTop (mkF m 2 #[.val (.ref a0), .val (.int (5 : Int32))] [])) (fun _ k => XS.goto X0.here hx rfl (pc0 := 31) (pc' := 2) rfl (hb hby d2_31) (by decide) (by decide) k) ?_
                  refine own_go (U' := s₁.setTop (mkF m 3 #[.val (.ref a0), .val (.int (5 : Int32))] [(.int (5 : Int32))])) (fun _ k => XS.iloadN X0.here hx rfl (hb hby d2_2) rfl k) ?_
                  refine own_go (U' := s₁.setTop (mkF m 4 #[.val (.ref a0), .val (.int (5 : Int32))] [(.ref a0), (.int (5 : Int32))])) (fun _ k => XS.aloadN X0.here hx rfl (hb hby d2_3) rfl rfl k) ?_
                  have V74 := V_a
                  obtain ⟨cl74, Ar74, q74, S74, Ng74, Hh74⟩ := V74
                  have hl74 := len_of S74 Ng74
                  refine own_go (U' := s₁.setTop (mkF m 5 #[.val (.ref a0), .val (.int (5 : Int32))] [(.int z), (.int (5 : Int32))])) (fun _ k => X0.arraylength hx (by rw [e0]; exact Ar74.1) (State.isArrayOf_alike hZ.alike Ar74.2.1) (g := (mkF m 4 #[.val (.ref a0), .val (.int (5 : Int32))] [(.ref a0), (.int (5 : Int32))])) rfl rfl (hb hby d2_4) _ (by rw [hl74]; exact k)) ?_
                  have hc5_75 : ¬ ((5 : Int32) < z) := own_n5 h6
                  refine own_go (U' := s₁.setTop (mkF m 34 #[.val (.ref a0), .val (.int (5 : Int32))] [])) (fun _ k => XS.icmpYes X0.here hx rfl (pc0 := 5) (pc' := 34) rfl (hb hby d2_5) rfl (flt hc5_75).2.1 (by decide) (by decide) k) ?_
                  refine own_go (U' := s₁.setTop (mkF m 35 #[.val (.ref a0), .val (.int (5 : Int32))] [(.int (-1 : Int32))])) (fun _ k => XS.iconst X0.here hx rfl (hb hby d2_34) k) ?_
                  refine own_ret X0 (v := (some (.int (-1 : Int32)))) hlk (fun h => by rw [Bd.returns] at h; cases h) (by decide) (by decide) (fun fs hr => own_retI X0 hx Bd.returns (hb hby d2_35) hr) ?_
                  show (Q2 Z a0 k1 z f h0 n0) _ s₁.heap _
                  rw [e0]
                  exact ⟨by first | (simp only [f_2, if_pos hc5_7, if_neg hc13_9, if_pos hc5_39, if_neg hc13_41, if_pos hc5_58, if_neg hc13_60, if_pos hc5_70, if_pos hc13_72, if_neg hc5_75]; done) | rfl | (simp [f_2, if_pos hc5_7, if_neg hc13_9, if_pos hc5_39, if_neg hc13_41, if_pos hc5_58, if_neg hc13_60, if_pos hc5_70, if_pos hc13_72, if_neg hc5_75]; done), N0, rfl⟩
                · refine own_go (U' := s₁.setTop (mkF m 28 #[.val (.ref a0), .val (.int (4 : Int32))] [])) (fun _ k => XS.icmpYes X0.here hx rfl (pc0 := 13) (pc' := 28) rfl (hb hby d2_13) rfl (feq hc13_72).2 (by decide) (by decide) k) ?_
                  refine own_go (U' := s₁.setTop (mkF m 31 #[.val (.ref a0), .val (.int (5 : Int32))] [])) (fun _ k => XS.iinc X0.here hx rfl (hb hby d2_28) rfl (l' := #[.val (.ref a0), .val (.int (5 : Int32))]) rfl k) ?_
                  refine own_go (U' := s₁.setTop (mkF m 2 #[.val (.ref a0), .val (.int (5 : Int32))] [])) (fun _ k => XS.goto X0.here hx rfl (pc0 := 31) (pc' := 2) rfl (hb hby d2_31) (by decide) (by decide) k) ?_
                  refine own_go (U' := s₁.setTop (mkF m 3 #[.val (.ref a0), .val (.int (5 : Int32))] [(.int (5 : Int32))])) (fun _ k => XS.iloadN X0.here hx rfl (hb hby d2_2) rfl k) ?_
                  refine own_go (U' := s₁.setTop (mkF m 4 #[.val (.ref a0), .val (.int (5 : Int32))] [(.ref a0), (.int (5 : Int32))])) (fun _ k => XS.aloadN X0.here hx rfl (hb hby d2_3) rfl rfl k) ?_
                  have V76 := V_a
                  obtain ⟨cl76, Ar76, q76, S76, Ng76, Hh76⟩ := V76
                  have hl76 := len_of S76 Ng76
                  refine own_go (U' := s₁.setTop (mkF m 5 #[.val (.ref a0), .val (.int (5 : Int32))] [(.int z), (.int (5 : Int32))])) (fun _ k => X0.arraylength hx (by rw [e0]; exact Ar76.1) (State.isArrayOf_alike hZ.alike Ar76.2.1) (g := (mkF m 4 #[.val (.ref a0), .val (.int (5 : Int32))] [(.ref a0), (.int (5 : Int32))])) rfl rfl (hb hby d2_4) _ (by rw [hl76]; exact k)) ?_
                  have hc5_77 : ¬ ((5 : Int32) < z) := own_n5 h6
                  refine own_go (U' := s₁.setTop (mkF m 34 #[.val (.ref a0), .val (.int (5 : Int32))] [])) (fun _ k => XS.icmpYes X0.here hx rfl (pc0 := 5) (pc' := 34) rfl (hb hby d2_5) rfl (flt hc5_77).2.1 (by decide) (by decide) k) ?_
                  refine own_go (U' := s₁.setTop (mkF m 35 #[.val (.ref a0), .val (.int (5 : Int32))] [(.int (-1 : Int32))])) (fun _ k => XS.iconst X0.here hx rfl (hb hby d2_34) k) ?_
                  refine own_ret X0 (v := (some (.int (-1 : Int32)))) hlk (fun h => by rw [Bd.returns] at h; cases h) (by decide) (by decide) (fun fs hr => own_retI X0 hx Bd.returns (hb hby d2_35) hr) ?_
                  show (Q2 Z a0 k1 z f h0 n0) _ s₁.heap _
                  rw [e0]
                  exact ⟨by first | (simp only [f_2, if_pos hc5_7, if_neg hc13_9, if_pos hc5_39, if_neg hc13_41, if_pos hc5_58, if_neg hc13_60, if_pos hc5_70, if_neg hc13_72, if_neg hc5_77]; done) | rfl | (simp [f_2, if_pos hc5_7, if_neg hc13_9, if_pos hc5_39, if_neg hc13_41, if_pos hc5_58, if_neg hc13_60, if_pos hc5_70, if_neg hc13_72, if_neg hc5_77]; done), N0, rfl⟩
              · refine own_go (U' := s₁.setTop (mkF m 34 #[.val (.ref a0), .val (.int (4 : Int32))] [])) (fun _ k => XS.icmpYes X0.here hx rfl (pc0 := 5) (pc' := 34) rfl (hb hby d2_5) rfl (flt hc5_70).2.1 (by decide) (by decide) k) ?_
                refine own_go (U' := s₁.setTop (mkF m 35 #[.val (.ref a0), .val (.int (4 : Int32))] [(.int (-1 : Int32))])) (fun _ k => XS.iconst X0.here hx rfl (hb hby d2_34) k) ?_
                refine own_ret X0 (v := (some (.int (-1 : Int32)))) hlk (fun h => by rw [Bd.returns] at h; cases h) (by decide) (by decide) (fun fs hr => own_retI X0 hx Bd.returns (hb hby d2_35) hr) ?_
                show (Q2 Z a0 k1 z f h0 n0) _ s₁.heap _
                rw [e0]
                exact ⟨by first | (simp only [f_2, if_pos hc5_7, if_neg hc13_9, if_pos hc5_39, if_neg hc13_41, if_pos hc5_58, if_neg hc13_60, if_neg hc5_70]; done) | rfl | (simp [f_2, if_pos hc5_7, if_neg hc13_9, if_pos hc5_39, if_neg hc13_41, if_pos hc5_58, if_neg hc13_60, if_neg hc5_70]; done), N0, rfl⟩
          · refine own_go (U' := s₁.setTop (mkF m 34 #[.val (.ref a0), .val (.int (3 : Int32))] [])) (fun _ k => XS.icmpYes X0.here hx rfl (pc0 := 5) (pc' := 34) rfl (hb hby d2_5) rfl (flt hc5_58).2.1 (by decide) (by decide) k) ?_
            refine own_go (U' := s₁.setTop (mkF m 35 #[.val (.ref a0), .val (.int (3 : Int32))] [(.int (-1 : Int32))])) (fun _ k => XS.iconst X0.here hx rfl (hb hby d2_34) k) ?_
            refine own_ret X0 (v := (some (.int (-1 : Int32)))) hlk (fun h => by rw [Bd.returns] at h; cases h) (by decide) (by decide) (fun fs hr => own_retI X0 hx Bd.returns (hb hby d2_35) hr) ?_
            show (Q2 Z a0 k1 z f h0 n0) _ s₁.heap _
            rw [e0]
            exact ⟨by first | (simp only [f_2, if_pos hc5_7, if_neg hc13_9, if_pos hc5_39, if_neg hc13_41, if_neg hc5_58]; done) | rfl | (simp [f_2, if_pos hc5_7, if_neg hc13_9, if_pos hc5_39, if_neg hc13_41, if_neg hc5_58]; done), N0, rfl⟩
      · refine own_go (U' := s₁.setTop (mkF m 34 #[.val (.ref a0), .val (.int (2 : Int32))] [])) (fun _ k => XS.icmpYes X0.here hx rfl (pc0 := 5) (pc' := 34) rfl (hb hby d2_5) rfl (flt hc5_39).2.1 (by decide) (by decide) k) ?_
        refine own_go (U' := s₁.setTop (mkF m 35 #[.val (.ref a0), .val (.int (2 : Int32))] [(.int (-1 : Int32))])) (fun _ k => XS.iconst X0.here hx rfl (hb hby d2_34) k) ?_
        refine own_ret X0 (v := (some (.int (-1 : Int32)))) hlk (fun h => by rw [Bd.returns] at h; cases h) (by decide) (by decide) (fun fs hr => own_retI X0 hx Bd.returns (hb hby d2_35) hr) ?_
        show (Q2 Z a0 k1 z f h0 n0) _ s₁.heap _
        rw [e0]
        exact ⟨by first | (simp only [f_2, if_pos hc5_7, if_neg hc13_9, if_neg hc5_39]; done) | rfl | (simp [f_2, if_pos hc5_7, if_neg hc13_9, if_neg hc5_39]; done), N0, rfl⟩
  · refine own_go (U' := s₁.setTop (mkF m 34 #[.val (.ref a0), .val (.int (1 : Int32))] [])) (fun _ k => XS.icmpYes X0.here hx rfl (pc0 := 5) (pc' := 34) rfl (hb hby d2_5) rfl (flt hc5_7).2.1 (by decide) (by decide) k) ?_
    refine own_go (U' := s₁.setTop (mkF m 35 #[.val (.ref a0), .val (.int (1 : Int32))] [(.int (-1 : Int32))])) (fun _ k => XS.iconst X0.here hx rfl (hb hby d2_34) k) ?_
    refine own_ret X0 (v := (some (.int (-1 : Int32)))) hlk (fun h => by rw [Bd.returns] at h; cases h) (by decide) (by decide) (fun fs hr => own_retI X0 hx Bd.returns (hb hby d2_35) hr) ?_
    show (Q2 Z a0 k1 z f h0 n0) _ s₁.heap _
    rw [e0]
    exact ⟨by first | (simp only [f_2, if_neg hc5_7]; done) | rfl | (simp [f_2, if_neg hc5_7]; done), N0, rfl⟩

theorem own_main {a : Addr} {k : ClassId} {z : Int32} {f : Int32 → Int32} (h0 : ¬ z < 0) (h6 : z < 6) : f_2 a k z f = if (¬ f_1 a 0 k z f = 0 ∧ ¬ f_1 a 1 k z f = 0) then 1 else if (¬ f_1 a 1 k z f = 0 ∧ ¬ f_1 a 2 k z f = 0) then 2 else if (¬ f_1 a 2 k z f = 0 ∧ ¬ f_1 a 3 k z f = 0) then 3 else if (¬ f_1 a 3 k z f = 0 ∧ ¬ f_1 a 4 k z f = 0) then 4 else -1 := by
  rcases own_in6 h0 h6 with rfl | rfl | rfl | rfl | rfl | rfl
  · simp +decide [f_1, f_2]
  · simp +decide [f_1, f_2]
  · by_cases q0 : f 0 = 10 <;> by_cases q1 : f 1 = 10 <;> simp +decide [f_1, f_2, q0, q1]
  · by_cases q0 : f 0 = 10 <;> by_cases q1 : f 1 = 10 <;> by_cases q2 : f 2 = 10 <;> simp +decide [f_1, f_2, q0, q1, q2]
  · by_cases q0 : f 0 = 10 <;> by_cases q1 : f 1 = 10 <;> by_cases q2 : f 2 = 10 <;> by_cases q3 : f 3 = 10 <;> simp +decide [f_1, f_2, q0, q1, q2, q3]
  · by_cases q0 : f 0 = 10 <;> by_cases q1 : f 1 = 10 <;> by_cases q2 : f 2 = 10 <;> by_cases q3 : f 3 = 10 <;> by_cases q4 : f 4 = 10 <;> simp +decide [f_1, f_2, q0, q1, q2, q3, q4]

theorem own_pd0 : parseMethodDescriptor "([BI)Z" = some ⟨[(.array .byte), .int], some .boolean⟩ := by decide +kernel
theorem own_pd1 : parseMethodDescriptor "([B)I" = some ⟨[(.array .byte)], some .int⟩ := by decide +kernel
theorem own_pd2 : parseMethodDescriptor "(I)B" = some ⟨[.int], some .byte⟩ := by decide +kernel
theorem own_ef0 (m : MethodId) (x0 : Int32) (x1 : Int32) (x2 : Int32) (x3 : Int32) (x4 : Int32) (x5 : Int32) : entryFrame m #[(.int x0), (.int x1), (.int x2), (.int x3), (.int x4), (.int x5)] maxLocals = mkF m 0 #[.val (.int x0), .val (.int x1), .val (.int x2), .val (.int x3), .val (.int x4), .val (.int x5), .unset, .unset, .unset] [] := by first | (simp [entryFrame, mkF, argsToLocals, Value.category, maxLocals]; done) | rfl
def Q0 (Z : State) (p0 : Int32) (p1 : Int32) (p2 : Int32) (p3 : Int32) (p4 : Int32) (p5 : Int32) (h0 : Heap) (n0 : Nat) (v : Option Value) (h : Heap) (L : List Loc) : Prop := v = some (.int 1) ∧ Fr n0 L
set_option maxRecDepth 65536 in
set_option maxHeartbeats 40000000 in
theorem rm0 (l : Launch) (Z : State) (aw : Array Value) (hw : ∀ d ∈ tables_1, d.before aw Z = true) (ws : List Jvm.Cond) (p0 : Int32) (p1 : Int32) (p2 : Int32) (p3 : Int32) (p4 : Int32) (p5 : Int32) (h0 : Heap) (n0 : Nat) (Z0 : n0 ≤ h0.size) :
    MetFree l x (head1 (Jvm.Cond.code x code maxLocals ret :: ws) room_1) (fun a U => a = #[(.int p0), (.int p1), (.int p2), (.int p3), (.int p4), (.int p5)] ∧ Z.Warmed39 U.vm ∧ U.heap = h0) (fun _ _ _ _ _ => True) (fun _ U o U' => ∃ v L, o = .returned v ∧ (Q0 Z p0 p1 p2 p3 p4 p5 h0 n0) v U'.heap L ∧ FrameEnd U o U' L room_1.cells room_1.slots) := by
  refine MetFree.of_bodySF (plainFor_of_name own_pn0) hisR ?_
  intro p e s m args below meth c s₁ Bd hml0 hP hK
  obtain ⟨rfl, hZ, hh⟩ := hP
  have hx := Bd.exec
  have hby := Bd.bytes
  have hml : c.maxLocals = 9 := hml0
  have hown : s.vm.findClass "com/example/hashtory/hashtory/TextFieldsEndOfLinesPinLaw" = some m.cls := findClass_of_methodNamed Bd.named
  have hnm := (name_of_methodNamed Bd.named Bd.method).1
  have hlk : meth.locks = false := BodyLoose.notSynchronized (by assumption)
  have X0 : Stand p l e room_1 s m #[(.int p0), (.int p1), (.int p2), (.int p3), (.int p4), (.int p5)] below meth c s₁ [] 0 0 := Stand.of_body Bd
  have e0 : s₁.heap = h0 := by rw [← hh, Bd.state]; rfl
  have N0 := Fr.nil n0
  show own_Done p e below s (Q0 Z p0 p1 p2 p3 p4 p5 h0 n0) room_1.cells room_1.slots (s₁.setTop (entryFrame m #[(.int p0), (.int p1), (.int p2), (.int p3), (.int p4), (.int p5)] maxLocals))
  refine own_go (U' := s₁.setTop (mkF m 0 #[.val (.int p0), .val (.int p1), .val (.int p2), .val (.int p3), .val (.int p4), .val (.int p5), .unset, .unset, .unset] [])) (fun _ k => castTop (own_ef0 m p0 p1 p2 p3 p4 p5) k) ?_
  refine own_go (U' := s₁.setTop (mkF m 1 #[.val (.int p0), .val (.int p1), .val (.int p2), .val (.int p3), .val (.int p4), .val (.int p5), .unset, .unset, .unset] [(.int p0)])) (fun _ k => XS.iloadN X0.here hx rfl (hb hby at_0) rfl k) ?_
  refine own_go (U' := s₁.setTop (mkF m 3 #[.val (.int p0), .val (.int p1), .val (.int p2), .val (.int p3), .val (.int p4), .val (.int p5), .unset, .unset, .unset] [(.int (2147483647 : Int32)), (.int p0)])) (fun _ k => X0.ldcInt hx hown (mvT hZ (hw _ (List.mem_of_getElem? (i := 0) rfl))) (g := (mkF m 1 #[.val (.int p0), .val (.int p1), .val (.int p2), .val (.int p3), .val (.int p4), .val (.int p5), .unset, .unset, .unset] [(.int p0)])) rfl (hb hby at_1) _ k) ?_
  refine own_go (U' := s₁.setTop (mkF m 4 #[.val (.int p0), .val (.int p1), .val (.int p2), .val (.int p3), .val (.int p4), .val (.int p5), .unset, .unset, .unset] [(.int (p0 &&& (2147483647 : Int32)))])) (fun _ k => XS.iand X0.here hx rfl (hb hby at_3) rfl k) ?_
  refine own_go (U' := s₁.setTop (mkF m 6 #[.val (.int p0), .val (.int p1), .val (.int p2), .val (.int p3), .val (.int p4), .val (.int p5), .unset, .unset, .unset] [(.int (6 : Int32)), (.int (p0 &&& (2147483647 : Int32)))])) (fun _ k => XS.bipush X0.here hx rfl (hb hby at_4) k) ?_
  refine own_go (U' := s₁.setTop (mkF m 7 #[.val (.int p0), .val (.int p1), .val (.int p2), .val (.int p3), .val (.int p4), .val (.int p5), .unset, .unset, .unset] [(.int ((p0 &&& (2147483647 : Int32)) % (6 : Int32)))])) (fun _ k => iremM X0 hx rfl (hb hby at_6) rfl (by decide) k) ?_
  generalize hy7 : ((p0 &&& (2147483647 : Int32)) % (6 : Int32)) = y7
  refine own_go (U' := s₁.setTop (mkF m 9 #[.val (.int p0), .val (.int p1), .val (.int p2), .val (.int p3), .val (.int p4), .val (.int p5), .val (.int y7), .unset, .unset] [])) (fun _ k => XS.istore X0.here hx rfl (hb hby at_7) rfl (l' := #[.val (.int p0), .val (.int p1), .val (.int p2), .val (.int p3), .val (.int p4), .val (.int p5), .val (.int y7), .unset, .unset]) rfl k) ?_
  obtain ⟨hr0, hr6, hrc⟩ := own_r6 hy7
  refine own_go (U' := s₁.setTop (mkF m 11 #[.val (.int p0), .val (.int p1), .val (.int p2), .val (.int p3), .val (.int p4), .val (.int p5), .val (.int y7), .unset, .unset] [(.int y7)])) (fun _ k => XS.iload X0.here hx rfl (hb hby at_9) rfl k) ?_
  obtain ⟨T78, h78, k78, X78, e78, E78, A78, st78⟩ := newP X0 hx hZ (hw _ (List.mem_of_getElem? (i := 1) rfl)) e0 (g := (mkF m 11 #[.val (.int p0), .val (.int p1), .val (.int p2), .val (.int p3), .val (.int p4), .val (.int p5), .val (.int y7), .unset, .unset] [(.int y7)])) rfl (hb hby at_11) rfl hr0 (cap := 5) hrc (by decide) (by decide) (by decide)
  obtain ⟨b78, g78⟩ : ∃ z, z = h0.size := ⟨_, rfl⟩
  have g_b78 : n0 ≤ b78 := Nat.le_trans Z0 (Nat.le_of_eq g78.symm)
  have sz_b78 : h0.size ≤ b78 := Nat.le_trans (Keep.refl h0 []).1 (Nat.le_of_eq g78.symm)
  rw [← g78] at A78 st78
  have Z78 : n0 ≤ h78.size := Nat.le_trans Z0 E78.1
  have K78 := Keep.ext (Keep.refl h0 []) E78
  have V_b78 : own_Arf Z h78 b78 k78 .byte y7 (fun _ => (0 : Int32)) := own_Arf.new A78 hr0 rfl
  refine own_go (U' := T78.setTop (mkF m 13 #[.val (.int p0), .val (.int p1), .val (.int p2), .val (.int p3), .val (.int p4), .val (.int p5), .val (.int y7), .unset, .unset] [(.ref b78)])) (fun _ k => st78 _ k) ?_
  refine own_go (U' := T78.setTop (mkF m 15 #[.val (.int p0), .val (.int p1), .val (.int p2), .val (.int p3), .val (.int p4), .val (.int p5), .val (.int y7), .val (.ref b78), .unset] [])) (fun _ k => XS.astore X78.here hx rfl (hb hby at_13) rfl rfl (l' := #[.val (.int p0), .val (.int p1), .val (.int p2), .val (.int p3), .val (.int p4), .val (.int p5), .val (.int y7), .val (.ref b78), .unset]) rfl k) ?_
  have tail : ∀ (T_ : State) (l_ : List Loc) (X_ : Stand p l e room_1 s m #[(.int p0), (.int p1), (.int p2), (.int p3), (.int p4), (.int p5)] below meth c T_ l_ 1 5) (h_ : Heap) (e_ : T_.heap = h_) (N_ : Fr n0 l_) (Z_ : n0 ≤ h_.size) (f_ : Int32 → Int32) (V_ : own_Arf Z h_ b78 k78 .byte y7 f_), own_Done p e below s (Q0 Z p0 p1 p2 p3 p4 p5 h0 n0) room_1.cells room_1.slots (T_.setTop (mkF m 86 #[.val (.int p0), .val (.int p1), .val (.int p2), .val (.int p3), .val (.int p4), .val (.int p5), .val (.int y7), .val (.ref b78), .unset] [])) := by
    intro T_ l_ X_ h_ e_ N_ Z_ f_ V_
    refine own_go (U' := T_.setTop (mkF m 88 #[.val (.int p0), .val (.int p1), .val (.int p2), .val (.int p3), .val (.int p4), .val (.int p5), .val (.int y7), .val (.ref b78), .unset] [(.ref b78)])) (fun _ k => XS.aload X_.here hx rfl (hb hby at_86) rfl rfl k) ?_
    refine own_go (U' := T_.setTop (mkF m 89 #[.val (.int p0), .val (.int p1), .val (.int p2), .val (.int p3), .val (.int p4), .val (.int p5), .val (.int y7), .val (.ref b78), .unset] [(.int (0 : Int32)), (.ref b78)])) (fun _ k => XS.iconst X_.here hx rfl (hb hby at_88) k) ?_
    obtain ⟨_, _, ⟨T79, L79, k79, n79⟩, -, X79, ⟨Lc79, hQ79, l79, y79, z79⟩, st79⟩ := Jvm.LawKit.callS X_ hx (y := (⟨"com/example/hashtory/hashtory/TextFieldsEndOfLinesPinLaw", "lf", "([BI)Z"⟩ : MethodName)) hown (mvT hZ (hw _ (List.mem_of_getElem? (i := 2) rfl))) (mvT hZ (hw _ (List.mem_of_getElem? (i := 3) rfl))) (mvT hZ (hw _ (List.mem_of_getElem? (i := 4) rfl))) (mvT hZ (hw _ (List.mem_of_getElem? (i := 5) rfl))) (by decide) (backOf (W := 0) (rm1 l Z aw hw [] b78 (0 : Int32) k78 y7 f_ h_ n0 Z_ V_ (by first | assumption | decide)) hZ (hw _ (List.mem_of_getElem? (i := 5) rfl)) (hw _ (List.mem_of_getElem? (i := 4) rfl)) (by decide) (by decide)) (g := (mkF m 89 #[.val (.int p0), .val (.int p1), .val (.int p2), .val (.int p3), .val (.int p4), .val (.int p5), .val (.int y7), .val (.ref b78), .unset] [(.int (0 : Int32)), (.ref b78)])) rfl (by rw [hml]; rfl) (argsL := [(.ref b78), (.int (0 : Int32))]) (rest := []) (lenOf own_pd0 rfl) rfl (by show 2 * 0 + _ ≤ _; exact Nat.le_of_eq rfl) (hb hby at_89) (fun _ _ => ⟨rfl, e_, (by decide : 1 + 0 ≤ _), (by decide : 5 + 0 ≤ _)⟩)
    dsimp only [Pt.U, Pt.locs, Pt.cells, Pt.slots] at X79 l79 y79 z79 st79 hQ79
    subst l79 y79 z79
    obtain ⟨rfl, N79q, e79⟩ := hQ79
    have N79 := Fr.app N_ N79q
    refine own_go (U' := T79.setTop (mkF m 92 #[.val (.int p0), .val (.int p1), .val (.int p2), .val (.int p3), .val (.int p4), .val (.int p5), .val (.int y7), .val (.ref b78), .unset] [(.int (f_1 b78 (0 : Int32) k78 y7 f_))])) (fun _ k => st79 _ k) ?_
    by_cases hc92_80 : (f_1 b78 (0 : Int32) k78 y7 f_) = (0 : Int32)
    · refine own_go (U' := T79.setTop (mkF m 110 #[.val (.int p0), .val (.int p1), .val (.int p2), .val (.int p3), .val (.int p4), .val (.int p5), .val (.int y7), .val (.ref b78), .unset] [])) (fun _ k => XS.ifYes X79.here hx rfl (pc0 := 92) (pc' := 110) rfl (hb hby at_92) rfl ((if0 _ _).trans (teq hc92_80).1) (by decide) (by decide) k) ?_
      refine own_go (U' := T79.setTop (mkF m 112 #[.val (.int p0), .val (.int p1), .val (.int p2), .val (.int p3), .val (.int p4), .val (.int p5), .val (.int y7), .val (.ref b78), .unset] [(.ref b78)])) (fun _ k => XS.aload X79.here hx rfl (hb hby at_110) rfl rfl k) ?_
      refine own_go (U' := T79.setTop (mkF m 113 #[.val (.int p0), .val (.int p1), .val (.int p2), .val (.int p3), .val (.int p4), .val (.int p5), .val (.int y7), .val (.ref b78), .unset] [(.int (1 : Int32)), (.ref b78)])) (fun _ k => XS.iconst X79.here hx rfl (hb hby at_112) k) ?_
      obtain ⟨_, _, ⟨T81, L81, k81, n81⟩, -, X81, ⟨Lc81, hQ81, l81, y81, z81⟩, st81⟩ := Jvm.LawKit.callS X79 hx (y := (⟨"com/example/hashtory/hashtory/TextFieldsEndOfLinesPinLaw", "lf", "([BI)Z"⟩ : MethodName)) hown (mvT hZ (hw _ (List.mem_of_getElem? (i := 2) rfl))) (mvT hZ (hw _ (List.mem_of_getElem? (i := 3) rfl))) (mvT hZ (hw _ (List.mem_of_getElem? (i := 4) rfl))) (mvT hZ (hw _ (List.mem_of_getElem? (i := 5) rfl))) (by decide) (backOf (W := 0) (rm1 l Z aw hw [] b78 (1 : Int32) k78 y7 f_ h_ n0 Z_ V_ (by first | assumption | decide)) hZ (hw _ (List.mem_of_getElem? (i := 5) rfl)) (hw _ (List.mem_of_getElem? (i := 4) rfl)) (by decide) (by decide)) (g := (mkF m 113 #[.val (.int p0), .val (.int p1), .val (.int p2), .val (.int p3), .val (.int p4), .val (.int p5), .val (.int y7), .val (.ref b78), .unset] [(.int (1 : Int32)), (.ref b78)])) rfl (by rw [hml]; rfl) (argsL := [(.ref b78), (.int (1 : Int32))]) (rest := []) (lenOf own_pd0 rfl) rfl (by show 2 * 0 + _ ≤ _; exact Nat.le_of_eq rfl) (hb hby at_113) (fun _ _ => ⟨rfl, e79, (by decide : 1 + 0 ≤ _), (by decide : 5 + 0 ≤ _)⟩)
      dsimp only [Pt.U, Pt.locs, Pt.cells, Pt.slots] at X81 l81 y81 z81 st81 hQ81
      subst l81 y81 z81
      obtain ⟨rfl, N81q, e81⟩ := hQ81
      have N81 := Fr.app N79 N81q
      refine own_go (U' := T81.setTop (mkF m 116 #[.val (.int p0), .val (.int p1), .val (.int p2), .val (.int p3), .val (.int p4), .val (.int p5), .val (.int y7), .val (.ref b78), .unset] [(.int (f_1 b78 (1 : Int32) k78 y7 f_))])) (fun _ k => st81 _ k) ?_
      by_cases hc116_82 : (f_1 b78 (1 : Int32) k78 y7 f_) = (0 : Int32)
      · refine own_go (U' := T81.setTop (mkF m 134 #[.val (.int p0), .val (.int p1), .val (.int p2), .val (.int p3), .val (.int p4), .val (.int p5), .val (.int y7), .val (.ref b78), .unset] [])) (fun _ k => XS.ifYes X81.here hx rfl (pc0 := 116) (pc' := 134) rfl (hb hby at_116) rfl ((if0 _ _).trans (teq hc116_82).1) (by decide) (by decide) k) ?_
        refine own_go (U' := T81.setTop (mkF m 136 #[.val (.int p0), .val (.int p1), .val (.int p2), .val (.int p3), .val (.int p4), .val (.int p5), .val (.int y7), .val (.ref b78), .unset] [(.ref b78)])) (fun _ k => XS.aload X81.here hx rfl (hb hby at_134) rfl rfl k) ?_
        refine own_go (U' := T81.setTop (mkF m 137 #[.val (.int p0), .val (.int p1), .val (.int p2), .val (.int p3), .val (.int p4), .val (.int p5), .val (.int y7), .val (.ref b78), .unset] [(.int (2 : Int32)), (.ref b78)])) (fun _ k => XS.iconst X81.here hx rfl (hb hby at_136) k) ?_
        obtain ⟨_, _, ⟨T83, L83, k83, n83⟩, -, X83, ⟨Lc83, hQ83, l83, y83, z83⟩, st83⟩ := Jvm.LawKit.callS X81 hx (y := (⟨"com/example/hashtory/hashtory/TextFieldsEndOfLinesPinLaw", "lf", "([BI)Z"⟩ : MethodName)) hown (mvT hZ (hw _ (List.mem_of_getElem? (i := 2) rfl))) (mvT hZ (hw _ (List.mem_of_getElem? (i := 3) rfl))) (mvT hZ (hw _ (List.mem_of_getElem? (i := 4) rfl))) (mvT hZ (hw _ (List.mem_of_getElem? (i := 5) rfl))) (by decide) (backOf (W := 0) (rm1 l Z aw hw [] b78 (2 : Int32) k78 y7 f_ h_ n0 Z_ V_ (by first | assumption | decide)) hZ (hw _ (List.mem_of_getElem? (i := 5) rfl)) (hw _ (List.mem_of_getElem? (i := 4) rfl)) (by decide) (by decide)) (g := (mkF m 137 #[.val (.int p0), .val (.int p1), .val (.int p2), .val (.int p3), .val (.int p4), .val (.int p5), .val (.int y7), .val (.ref b78), .unset] [(.int (2 : Int32)), (.ref b78)])) rfl (by rw [hml]; rfl) (argsL := [(.ref b78), (.int (2 : Int32))]) (rest := []) (lenOf own_pd0 rfl) rfl (by show 2 * 0 + _ ≤ _; exact Nat.le_of_eq rfl) (hb hby at_137) (fun _ _ => ⟨rfl, e81, (by decide : 1 + 0 ≤ _), (by decide : 5 + 0 ≤ _)⟩)
        dsimp only [Pt.U, Pt.locs, Pt.cells, Pt.slots] at X83 l83 y83 z83 st83 hQ83
        subst l83 y83 z83
        obtain ⟨rfl, N83q, e83⟩ := hQ83
        have N83 := Fr.app N81 N83q
        refine own_go (U' := T83.setTop (mkF m 140 #[.val (.int p0), .val (.int p1), .val (.int p2), .val (.int p3), .val (.int p4), .val (.int p5), .val (.int y7), .val (.ref b78), .unset] [(.int (f_1 b78 (2 : Int32) k78 y7 f_))])) (fun _ k => st83 _ k) ?_
        by_cases hc140_84 : (f_1 b78 (2 : Int32) k78 y7 f_) = (0 : Int32)
        · refine own_go (U' := T83.setTop (mkF m 158 #[.val (.int p0), .val (.int p1), .val (.int p2), .val (.int p3), .val (.int p4), .val (.int p5), .val (.int y7), .val (.ref b78), .unset] [])) (fun _ k => XS.ifYes X83.here hx rfl (pc0 := 140) (pc' := 158) rfl (hb hby at_140) rfl ((if0 _ _).trans (teq hc140_84).1) (by decide) (by decide) k) ?_
          refine own_go (U' := T83.setTop (mkF m 160 #[.val (.int p0), .val (.int p1), .val (.int p2), .val (.int p3), .val (.int p4), .val (.int p5), .val (.int y7), .val (.ref b78), .unset] [(.ref b78)])) (fun _ k => XS.aload X83.here hx rfl (hb hby at_158) rfl rfl k) ?_
          refine own_go (U' := T83.setTop (mkF m 161 #[.val (.int p0), .val (.int p1), .val (.int p2), .val (.int p3), .val (.int p4), .val (.int p5), .val (.int y7), .val (.ref b78), .unset] [(.int (3 : Int32)), (.ref b78)])) (fun _ k => XS.iconst X83.here hx rfl (hb hby at_160) k) ?_
          obtain ⟨_, _, ⟨T85, L85, k85, n85⟩, -, X85, ⟨Lc85, hQ85, l85, y85, z85⟩, st85⟩ := Jvm.LawKit.callS X83 hx (y := (⟨"com/example/hashtory/hashtory/TextFieldsEndOfLinesPinLaw", "lf", "([BI)Z"⟩ : MethodName)) hown (mvT hZ (hw _ (List.mem_of_getElem? (i := 2) rfl))) (mvT hZ (hw _ (List.mem_of_getElem? (i := 3) rfl))) (mvT hZ (hw _ (List.mem_of_getElem? (i := 4) rfl))) (mvT hZ (hw _ (List.mem_of_getElem? (i := 5) rfl))) (by decide) (backOf (W := 0) (rm1 l Z aw hw [] b78 (3 : Int32) k78 y7 f_ h_ n0 Z_ V_ (by first | assumption | decide)) hZ (hw _ (List.mem_of_getElem? (i := 5) rfl)) (hw _ (List.mem_of_getElem? (i := 4) rfl)) (by decide) (by decide)) (g := (mkF m 161 #[.val (.int p0), .val (.int p1), .val (.int p2), .val (.int p3), .val (.int p4), .val (.int p5), .val (.int y7), .val (.ref b78), .unset] [(.int (3 : Int32)), (.ref b78)])) rfl (by rw [hml]; rfl) (argsL := [(.ref b78), (.int (3 : Int32))]) (rest := []) (lenOf own_pd0 rfl) rfl (by show 2 * 0 + _ ≤ _; exact Nat.le_of_eq rfl) (hb hby at_161) (fun _ _ => ⟨rfl, e83, (by decide : 1 + 0 ≤ _), (by decide : 5 + 0 ≤ _)⟩)
          dsimp only [Pt.U, Pt.locs, Pt.cells, Pt.slots] at X85 l85 y85 z85 st85 hQ85
          subst l85 y85 z85
          obtain ⟨rfl, N85q, e85⟩ := hQ85
          have N85 := Fr.app N83 N85q
          refine own_go (U' := T85.setTop (mkF m 164 #[.val (.int p0), .val (.int p1), .val (.int p2), .val (.int p3), .val (.int p4), .val (.int p5), .val (.int y7), .val (.ref b78), .unset] [(.int (f_1 b78 (3 : Int32) k78 y7 f_))])) (fun _ k => st85 _ k) ?_
          by_cases hc164_86 : (f_1 b78 (3 : Int32) k78 y7 f_) = (0 : Int32)
          · refine own_go (U' := T85.setTop (mkF m 182 #[.val (.int p0), .val (.int p1), .val (.int p2), .val (.int p3), .val (.int p4), .val (.int p5), .val (.int y7), .val (.ref b78), .unset] [])) (fun _ k => XS.ifYes X85.here hx rfl (pc0 := 164) (pc' := 182) rfl (hb hby at_164) rfl ((if0 _ _).trans (teq hc164_86).1) (by decide) (by decide) k) ?_
            refine own_go (U' := T85.setTop (mkF m 183 #[.val (.int p0), .val (.int p1), .val (.int p2), .val (.int p3), .val (.int p4), .val (.int p5), .val (.int y7), .val (.ref b78), .unset] [(.int (-1 : Int32))])) (fun _ k => XS.iconst X85.here hx rfl (hb hby at_182) k) ?_
            refine own_go (U' := T85.setTop (mkF m 185 #[.val (.int p0), .val (.int p1), .val (.int p2), .val (.int p3), .val (.int p4), .val (.int p5), .val (.int y7), .val (.ref b78), .val (.int (-1 : Int32))] [])) (fun _ k => XS.istore X85.here hx rfl (hb hby at_183) rfl (l' := #[.val (.int p0), .val (.int p1), .val (.int p2), .val (.int p3), .val (.int p4), .val (.int p5), .val (.int y7), .val (.ref b78), .val (.int (-1 : Int32))]) rfl k) ?_
            refine own_go (U' := T85.setTop (mkF m 187 #[.val (.int p0), .val (.int p1), .val (.int p2), .val (.int p3), .val (.int p4), .val (.int p5), .val (.int y7), .val (.ref b78), .val (.int (-1 : Int32))] [(.ref b78)])) (fun _ k => XS.aload X85.here hx rfl (hb hby at_185) rfl rfl k) ?_
            obtain ⟨_, _, ⟨T87, L87, k87, n87⟩, -, X87, ⟨Lc87, hQ87, l87, y87, z87⟩, st87⟩ := Jvm.LawKit.callS X85 hx (y := (⟨"com/example/hashtory/hashtory/TextFields", "endOfLines", "([B)I"⟩ : MethodName)) hown (mvT hZ (hw _ (List.mem_of_getElem? (i := 6) rfl))) (mvT hZ (hw _ (List.mem_of_getElem? (i := 7) rfl))) (mvT hZ (hw _ (List.mem_of_getElem? (i := 8) rfl))) (mvT hZ (hw _ (List.mem_of_getElem? (i := 9) rfl))) (by decide) (backOf (W := 0) (rm2 l Z aw hw [] b78 k78 y7 f_ h_ n0 Z_ V_ (by first | assumption | decide)) hZ (hw _ (List.mem_of_getElem? (i := 9) rfl)) (hw _ (List.mem_of_getElem? (i := 8) rfl)) (by decide) (by decide)) (g := (mkF m 187 #[.val (.int p0), .val (.int p1), .val (.int p2), .val (.int p3), .val (.int p4), .val (.int p5), .val (.int y7), .val (.ref b78), .val (.int (-1 : Int32))] [(.ref b78)])) rfl (by rw [hml]; rfl) (argsL := [(.ref b78)]) (rest := []) (lenOf own_pd1 rfl) rfl (by show 2 * 0 + _ ≤ _; exact Nat.le_of_eq rfl) (hb hby at_187) (fun _ _ => ⟨rfl, e85, (by decide : 1 + 0 ≤ _), (by decide : 5 + 0 ≤ _)⟩)
            dsimp only [Pt.U, Pt.locs, Pt.cells, Pt.slots] at X87 l87 y87 z87 st87 hQ87
            subst l87 y87 z87
            obtain ⟨rfl, N87q, e87⟩ := hQ87
            have N87 := Fr.app N85 N87q
            refine own_go (U' := T87.setTop (mkF m 190 #[.val (.int p0), .val (.int p1), .val (.int p2), .val (.int p3), .val (.int p4), .val (.int p5), .val (.int y7), .val (.ref b78), .val (.int (-1 : Int32))] [(.int (f_2 b78 k78 y7 f_))])) (fun _ k => st87 _ k) ?_
            refine own_go (U' := T87.setTop (mkF m 192 #[.val (.int p0), .val (.int p1), .val (.int p2), .val (.int p3), .val (.int p4), .val (.int p5), .val (.int y7), .val (.ref b78), .val (.int (-1 : Int32))] [(.int (-1 : Int32)), (.int (f_2 b78 k78 y7 f_))])) (fun _ k => XS.iload X87.here hx rfl (hb hby at_190) rfl k) ?_
            have hc192_88 : (f_2 b78 k78 y7 f_) = (-1 : Int32) := (own_main hr0 hr6).trans (by simp [hc92_80, hc116_82, hc140_84, hc164_86])
            refine own_go (U' := T87.setTop (mkF m 195 #[.val (.int p0), .val (.int p1), .val (.int p2), .val (.int p3), .val (.int p4), .val (.int p5), .val (.int y7), .val (.ref b78), .val (.int (-1 : Int32))] [])) (fun _ k => XS.icmpNo X87.here hx rfl (hb hby at_192) rfl (teq hc192_88).2 k) ?_
            refine own_go (U' := T87.setTop (mkF m 196 #[.val (.int p0), .val (.int p1), .val (.int p2), .val (.int p3), .val (.int p4), .val (.int p5), .val (.int y7), .val (.ref b78), .val (.int (-1 : Int32))] [(.int (1 : Int32))])) (fun _ k => XS.iconst X87.here hx rfl (hb hby at_195) k) ?_
            refine own_go (U' := T87.setTop (mkF m 200 #[.val (.int p0), .val (.int p1), .val (.int p2), .val (.int p3), .val (.int p4), .val (.int p5), .val (.int y7), .val (.ref b78), .val (.int (-1 : Int32))] [(.int (1 : Int32))])) (fun _ k => XS.goto X87.here hx rfl (pc0 := 196) (pc' := 200) rfl (hb hby at_196) (by decide) (by decide) k) ?_
            refine own_ret X87 (v := (some (.int (1 : Int32)))) hlk (fun h => by rw [Bd.returns] at h; cases h) (by decide) (by decide) (fun fs hr => retN X87 hx (t := .boolean) Bd.returns (by simp) (hb hby at_200) hr) ?_
            show (Q0 Z p0 p1 p2 p3 p4 p5 h0 n0) _ T87.heap _
            rw [e87]
            exact ⟨rfl, N87⟩
          · refine own_go (U' := T85.setTop (mkF m 167 #[.val (.int p0), .val (.int p1), .val (.int p2), .val (.int p3), .val (.int p4), .val (.int p5), .val (.int y7), .val (.ref b78), .unset] [])) (fun _ k => XS.ifNo X85.here hx rfl (hb hby at_164) rfl ((if0 _ _).trans (feq hc164_86).1) k) ?_
            refine own_go (U' := T85.setTop (mkF m 169 #[.val (.int p0), .val (.int p1), .val (.int p2), .val (.int p3), .val (.int p4), .val (.int p5), .val (.int y7), .val (.ref b78), .unset] [(.ref b78)])) (fun _ k => XS.aload X85.here hx rfl (hb hby at_167) rfl rfl k) ?_
            refine own_go (U' := T85.setTop (mkF m 170 #[.val (.int p0), .val (.int p1), .val (.int p2), .val (.int p3), .val (.int p4), .val (.int p5), .val (.int y7), .val (.ref b78), .unset] [(.int (4 : Int32)), (.ref b78)])) (fun _ k => XS.iconst X85.here hx rfl (hb hby at_169) k) ?_
            obtain ⟨_, _, ⟨T89, L89, k89, n89⟩, -, X89, ⟨Lc89, hQ89, l89, y89, z89⟩, st89⟩ := Jvm.LawKit.callS X85 hx (y := (⟨"com/example/hashtory/hashtory/TextFieldsEndOfLinesPinLaw", "lf", "([BI)Z"⟩ : MethodName)) hown (mvT hZ (hw _ (List.mem_of_getElem? (i := 2) rfl))) (mvT hZ (hw _ (List.mem_of_getElem? (i := 3) rfl))) (mvT hZ (hw _ (List.mem_of_getElem? (i := 4) rfl))) (mvT hZ (hw _ (List.mem_of_getElem? (i := 5) rfl))) (by decide) (backOf (W := 0) (rm1 l Z aw hw [] b78 (4 : Int32) k78 y7 f_ h_ n0 Z_ V_ (by first | assumption | decide)) hZ (hw _ (List.mem_of_getElem? (i := 5) rfl)) (hw _ (List.mem_of_getElem? (i := 4) rfl)) (by decide) (by decide)) (g := (mkF m 170 #[.val (.int p0), .val (.int p1), .val (.int p2), .val (.int p3), .val (.int p4), .val (.int p5), .val (.int y7), .val (.ref b78), .unset] [(.int (4 : Int32)), (.ref b78)])) rfl (by rw [hml]; rfl) (argsL := [(.ref b78), (.int (4 : Int32))]) (rest := []) (lenOf own_pd0 rfl) rfl (by show 2 * 0 + _ ≤ _; exact Nat.le_of_eq rfl) (hb hby at_170) (fun _ _ => ⟨rfl, e85, (by decide : 1 + 0 ≤ _), (by decide : 5 + 0 ≤ _)⟩)
            dsimp only [Pt.U, Pt.locs, Pt.cells, Pt.slots] at X89 l89 y89 z89 st89 hQ89
            subst l89 y89 z89
            obtain ⟨rfl, N89q, e89⟩ := hQ89
            have N89 := Fr.app N85 N89q
            refine own_go (U' := T89.setTop (mkF m 173 #[.val (.int p0), .val (.int p1), .val (.int p2), .val (.int p3), .val (.int p4), .val (.int p5), .val (.int y7), .val (.ref b78), .unset] [(.int (f_1 b78 (4 : Int32) k78 y7 f_))])) (fun _ k => st89 _ k) ?_
            by_cases hc173_90 : (f_1 b78 (4 : Int32) k78 y7 f_) = (0 : Int32)
            · refine own_go (U' := T89.setTop (mkF m 182 #[.val (.int p0), .val (.int p1), .val (.int p2), .val (.int p3), .val (.int p4), .val (.int p5), .val (.int y7), .val (.ref b78), .unset] [])) (fun _ k => XS.ifYes X89.here hx rfl (pc0 := 173) (pc' := 182) rfl (hb hby at_173) rfl ((if0 _ _).trans (teq hc173_90).1) (by decide) (by decide) k) ?_
              refine own_go (U' := T89.setTop (mkF m 183 #[.val (.int p0), .val (.int p1), .val (.int p2), .val (.int p3), .val (.int p4), .val (.int p5), .val (.int y7), .val (.ref b78), .unset] [(.int (-1 : Int32))])) (fun _ k => XS.iconst X89.here hx rfl (hb hby at_182) k) ?_
              refine own_go (U' := T89.setTop (mkF m 185 #[.val (.int p0), .val (.int p1), .val (.int p2), .val (.int p3), .val (.int p4), .val (.int p5), .val (.int y7), .val (.ref b78), .val (.int (-1 : Int32))] [])) (fun _ k => XS.istore X89.here hx rfl (hb hby at_183) rfl (l' := #[.val (.int p0), .val (.int p1), .val (.int p2), .val (.int p3), .val (.int p4), .val (.int p5), .val (.int y7), .val (.ref b78), .val (.int (-1 : Int32))]) rfl k) ?_
              refine own_go (U' := T89.setTop (mkF m 187 #[.val (.int p0), .val (.int p1), .val (.int p2), .val (.int p3), .val (.int p4), .val (.int p5), .val (.int y7), .val (.ref b78), .val (.int (-1 : Int32))] [(.ref b78)])) (fun _ k => XS.aload X89.here hx rfl (hb hby at_185) rfl rfl k) ?_
              obtain ⟨_, _, ⟨T91, L91, k91, n91⟩, -, X91, ⟨Lc91, hQ91, l91, y91, z91⟩, st91⟩ := Jvm.LawKit.callS X89 hx (y := (⟨"com/example/hashtory/hashtory/TextFields", "endOfLines", "([B)I"⟩ : MethodName)) hown (mvT hZ (hw _ (List.mem_of_getElem? (i := 6) rfl))) (mvT hZ (hw _ (List.mem_of_getElem? (i := 7) rfl))) (mvT hZ (hw _ (List.mem_of_getElem? (i := 8) rfl))) (mvT hZ (hw _ (List.mem_of_getElem? (i := 9) rfl))) (by decide) (backOf (W := 0) (rm2 l Z aw hw [] b78 k78 y7 f_ h_ n0 Z_ V_ (by first | assumption | decide)) hZ (hw _ (List.mem_of_getElem? (i := 9) rfl)) (hw _ (List.mem_of_getElem? (i := 8) rfl)) (by decide) (by decide)) (g := (mkF m 187 #[.val (.int p0), .val (.int p1), .val (.int p2), .val (.int p3), .val (.int p4), .val (.int p5), .val (.int y7), .val (.ref b78), .val (.int (-1 : Int32))] [(.ref b78)])) rfl (by rw [hml]; rfl) (argsL := [(.ref b78)]) (rest := []) (lenOf own_pd1 rfl) rfl (by show 2 * 0 + _ ≤ _; exact Nat.le_of_eq rfl) (hb hby at_187) (fun _ _ => ⟨rfl, e89, (by decide : 1 + 0 ≤ _), (by decide : 5 + 0 ≤ _)⟩)
              dsimp only [Pt.U, Pt.locs, Pt.cells, Pt.slots] at X91 l91 y91 z91 st91 hQ91
              subst l91 y91 z91
              obtain ⟨rfl, N91q, e91⟩ := hQ91
              have N91 := Fr.app N89 N91q
              refine own_go (U' := T91.setTop (mkF m 190 #[.val (.int p0), .val (.int p1), .val (.int p2), .val (.int p3), .val (.int p4), .val (.int p5), .val (.int y7), .val (.ref b78), .val (.int (-1 : Int32))] [(.int (f_2 b78 k78 y7 f_))])) (fun _ k => st91 _ k) ?_
              refine own_go (U' := T91.setTop (mkF m 192 #[.val (.int p0), .val (.int p1), .val (.int p2), .val (.int p3), .val (.int p4), .val (.int p5), .val (.int y7), .val (.ref b78), .val (.int (-1 : Int32))] [(.int (-1 : Int32)), (.int (f_2 b78 k78 y7 f_))])) (fun _ k => XS.iload X91.here hx rfl (hb hby at_190) rfl k) ?_
              have hc192_92 : (f_2 b78 k78 y7 f_) = (-1 : Int32) := (own_main hr0 hr6).trans (by simp [hc92_80, hc116_82, hc140_84, hc164_86, hc173_90])
              refine own_go (U' := T91.setTop (mkF m 195 #[.val (.int p0), .val (.int p1), .val (.int p2), .val (.int p3), .val (.int p4), .val (.int p5), .val (.int y7), .val (.ref b78), .val (.int (-1 : Int32))] [])) (fun _ k => XS.icmpNo X91.here hx rfl (hb hby at_192) rfl (teq hc192_92).2 k) ?_
              refine own_go (U' := T91.setTop (mkF m 196 #[.val (.int p0), .val (.int p1), .val (.int p2), .val (.int p3), .val (.int p4), .val (.int p5), .val (.int y7), .val (.ref b78), .val (.int (-1 : Int32))] [(.int (1 : Int32))])) (fun _ k => XS.iconst X91.here hx rfl (hb hby at_195) k) ?_
              refine own_go (U' := T91.setTop (mkF m 200 #[.val (.int p0), .val (.int p1), .val (.int p2), .val (.int p3), .val (.int p4), .val (.int p5), .val (.int y7), .val (.ref b78), .val (.int (-1 : Int32))] [(.int (1 : Int32))])) (fun _ k => XS.goto X91.here hx rfl (pc0 := 196) (pc' := 200) rfl (hb hby at_196) (by decide) (by decide) k) ?_
              refine own_ret X91 (v := (some (.int (1 : Int32)))) hlk (fun h => by rw [Bd.returns] at h; cases h) (by decide) (by decide) (fun fs hr => retN X91 hx (t := .boolean) Bd.returns (by simp) (hb hby at_200) hr) ?_
              show (Q0 Z p0 p1 p2 p3 p4 p5 h0 n0) _ T91.heap _
              rw [e91]
              exact ⟨rfl, N91⟩
            · refine own_go (U' := T89.setTop (mkF m 176 #[.val (.int p0), .val (.int p1), .val (.int p2), .val (.int p3), .val (.int p4), .val (.int p5), .val (.int y7), .val (.ref b78), .unset] [])) (fun _ k => XS.ifNo X89.here hx rfl (hb hby at_173) rfl ((if0 _ _).trans (feq hc173_90).1) k) ?_
              refine own_go (U' := T89.setTop (mkF m 177 #[.val (.int p0), .val (.int p1), .val (.int p2), .val (.int p3), .val (.int p4), .val (.int p5), .val (.int y7), .val (.ref b78), .unset] [(.int (4 : Int32))])) (fun _ k => XS.iconst X89.here hx rfl (hb hby at_176) k) ?_
              refine own_go (U' := T89.setTop (mkF m 179 #[.val (.int p0), .val (.int p1), .val (.int p2), .val (.int p3), .val (.int p4), .val (.int p5), .val (.int y7), .val (.ref b78), .val (.int (4 : Int32))] [])) (fun _ k => XS.istore X89.here hx rfl (hb hby at_177) rfl (l' := #[.val (.int p0), .val (.int p1), .val (.int p2), .val (.int p3), .val (.int p4), .val (.int p5), .val (.int y7), .val (.ref b78), .val (.int (4 : Int32))]) rfl k) ?_
              refine own_go (U' := T89.setTop (mkF m 185 #[.val (.int p0), .val (.int p1), .val (.int p2), .val (.int p3), .val (.int p4), .val (.int p5), .val (.int y7), .val (.ref b78), .val (.int (4 : Int32))] [])) (fun _ k => XS.goto X89.here hx rfl (pc0 := 179) (pc' := 185) rfl (hb hby at_179) (by decide) (by decide) k) ?_
              refine own_go (U' := T89.setTop (mkF m 187 #[.val (.int p0), .val (.int p1), .val (.int p2), .val (.int p3), .val (.int p4), .val (.int p5), .val (.int y7), .val (.ref b78), .val (.int (4 : Int32))] [(.ref b78)])) (fun _ k => XS.aload X89.here hx rfl (hb hby at_185) rfl rfl k) ?_
              obtain ⟨_, _, ⟨T93, L93, k93, n93⟩, -, X93, ⟨Lc93, hQ93, l93, y93, z93⟩, st93⟩ := Jvm.LawKit.callS X89 hx (y := (⟨"com/example/hashtory/hashtory/TextFields", "endOfLines", "([B)I"⟩ : MethodName)) hown (mvT hZ (hw _ (List.mem_of_getElem? (i := 6) rfl))) (mvT hZ (hw _ (List.mem_of_getElem? (i := 7) rfl))) (mvT hZ (hw _ (List.mem_of_getElem? (i := 8) rfl))) (mvT hZ (hw _ (List.mem_of_getElem? (i := 9) rfl))) (by decide) (backOf (W := 0) (rm2 l Z aw hw [] b78 k78 y7 f_ h_ n0 Z_ V_ (by first | assumption | decide)) hZ (hw _ (List.mem_of_getElem? (i := 9) rfl)) (hw _ (List.mem_of_getElem? (i := 8) rfl)) (by decide) (by decide)) (g := (mkF m 187 #[.val (.int p0), .val (.int p1), .val (.int p2), .val (.int p3), .val (.int p4), .val (.int p5), .val (.int y7), .val (.ref b78), .val (.int (4 : Int32))] [(.ref b78)])) rfl (by rw [hml]; rfl) (argsL := [(.ref b78)]) (rest := []) (lenOf own_pd1 rfl) rfl (by show 2 * 0 + _ ≤ _; exact Nat.le_of_eq rfl) (hb hby at_187) (fun _ _ => ⟨rfl, e89, (by decide : 1 + 0 ≤ _), (by decide : 5 + 0 ≤ _)⟩)
              dsimp only [Pt.U, Pt.locs, Pt.cells, Pt.slots] at X93 l93 y93 z93 st93 hQ93
              subst l93 y93 z93
              obtain ⟨rfl, N93q, e93⟩ := hQ93
              have N93 := Fr.app N89 N93q
              refine own_go (U' := T93.setTop (mkF m 190 #[.val (.int p0), .val (.int p1), .val (.int p2), .val (.int p3), .val (.int p4), .val (.int p5), .val (.int y7), .val (.ref b78), .val (.int (4 : Int32))] [(.int (f_2 b78 k78 y7 f_))])) (fun _ k => st93 _ k) ?_
              refine own_go (U' := T93.setTop (mkF m 192 #[.val (.int p0), .val (.int p1), .val (.int p2), .val (.int p3), .val (.int p4), .val (.int p5), .val (.int y7), .val (.ref b78), .val (.int (4 : Int32))] [(.int (4 : Int32)), (.int (f_2 b78 k78 y7 f_))])) (fun _ k => XS.iload X93.here hx rfl (hb hby at_190) rfl k) ?_
              have hc192_94 : (f_2 b78 k78 y7 f_) = (4 : Int32) := (own_main hr0 hr6).trans (by simp [hc92_80, hc116_82, hc140_84, hc164_86, hc173_90])
              refine own_go (U' := T93.setTop (mkF m 195 #[.val (.int p0), .val (.int p1), .val (.int p2), .val (.int p3), .val (.int p4), .val (.int p5), .val (.int y7), .val (.ref b78), .val (.int (4 : Int32))] [])) (fun _ k => XS.icmpNo X93.here hx rfl (hb hby at_192) rfl (teq hc192_94).2 k) ?_
              refine own_go (U' := T93.setTop (mkF m 196 #[.val (.int p0), .val (.int p1), .val (.int p2), .val (.int p3), .val (.int p4), .val (.int p5), .val (.int y7), .val (.ref b78), .val (.int (4 : Int32))] [(.int (1 : Int32))])) (fun _ k => XS.iconst X93.here hx rfl (hb hby at_195) k) ?_
              refine own_go (U' := T93.setTop (mkF m 200 #[.val (.int p0), .val (.int p1), .val (.int p2), .val (.int p3), .val (.int p4), .val (.int p5), .val (.int y7), .val (.ref b78), .val (.int (4 : Int32))] [(.int (1 : Int32))])) (fun _ k => XS.goto X93.here hx rfl (pc0 := 196) (pc' := 200) rfl (hb hby at_196) (by decide) (by decide) k) ?_
              refine own_ret X93 (v := (some (.int (1 : Int32)))) hlk (fun h => by rw [Bd.returns] at h; cases h) (by decide) (by decide) (fun fs hr => retN X93 hx (t := .boolean) Bd.returns (by simp) (hb hby at_200) hr) ?_
              show (Q0 Z p0 p1 p2 p3 p4 p5 h0 n0) _ T93.heap _
              rw [e93]
              exact ⟨rfl, N93⟩
        · refine own_go (U' := T83.setTop (mkF m 143 #[.val (.int p0), .val (.int p1), .val (.int p2), .val (.int p3), .val (.int p4), .val (.int p5), .val (.int y7), .val (.ref b78), .unset] [])) (fun _ k => XS.ifNo X83.here hx rfl (hb hby at_140) rfl ((if0 _ _).trans (feq hc140_84).1) k) ?_
          refine own_go (U' := T83.setTop (mkF m 145 #[.val (.int p0), .val (.int p1), .val (.int p2), .val (.int p3), .val (.int p4), .val (.int p5), .val (.int y7), .val (.ref b78), .unset] [(.ref b78)])) (fun _ k => XS.aload X83.here hx rfl (hb hby at_143) rfl rfl k) ?_
          refine own_go (U' := T83.setTop (mkF m 146 #[.val (.int p0), .val (.int p1), .val (.int p2), .val (.int p3), .val (.int p4), .val (.int p5), .val (.int y7), .val (.ref b78), .unset] [(.int (3 : Int32)), (.ref b78)])) (fun _ k => XS.iconst X83.here hx rfl (hb hby at_145) k) ?_
          obtain ⟨_, _, ⟨T95, L95, k95, n95⟩, -, X95, ⟨Lc95, hQ95, l95, y95, z95⟩, st95⟩ := Jvm.LawKit.callS X83 hx (y := (⟨"com/example/hashtory/hashtory/TextFieldsEndOfLinesPinLaw", "lf", "([BI)Z"⟩ : MethodName)) hown (mvT hZ (hw _ (List.mem_of_getElem? (i := 2) rfl))) (mvT hZ (hw _ (List.mem_of_getElem? (i := 3) rfl))) (mvT hZ (hw _ (List.mem_of_getElem? (i := 4) rfl))) (mvT hZ (hw _ (List.mem_of_getElem? (i := 5) rfl))) (by decide) (backOf (W := 0) (rm1 l Z aw hw [] b78 (3 : Int32) k78 y7 f_ h_ n0 Z_ V_ (by first | assumption | decide)) hZ (hw _ (List.mem_of_getElem? (i := 5) rfl)) (hw _ (List.mem_of_getElem? (i := 4) rfl)) (by decide) (by decide)) (g := (mkF m 146 #[.val (.int p0), .val (.int p1), .val (.int p2), .val (.int p3), .val (.int p4), .val (.int p5), .val (.int y7), .val (.ref b78), .unset] [(.int (3 : Int32)), (.ref b78)])) rfl (by rw [hml]; rfl) (argsL := [(.ref b78), (.int (3 : Int32))]) (rest := []) (lenOf own_pd0 rfl) rfl (by show 2 * 0 + _ ≤ _; exact Nat.le_of_eq rfl) (hb hby at_146) (fun _ _ => ⟨rfl, e83, (by decide : 1 + 0 ≤ _), (by decide : 5 + 0 ≤ _)⟩)
          dsimp only [Pt.U, Pt.locs, Pt.cells, Pt.slots] at X95 l95 y95 z95 st95 hQ95
          subst l95 y95 z95
          obtain ⟨rfl, N95q, e95⟩ := hQ95
          have N95 := Fr.app N83 N95q
          refine own_go (U' := T95.setTop (mkF m 149 #[.val (.int p0), .val (.int p1), .val (.int p2), .val (.int p3), .val (.int p4), .val (.int p5), .val (.int y7), .val (.ref b78), .unset] [(.int (f_1 b78 (3 : Int32) k78 y7 f_))])) (fun _ k => st95 _ k) ?_
          by_cases hc149_96 : (f_1 b78 (3 : Int32) k78 y7 f_) = (0 : Int32)
          · refine own_go (U' := T95.setTop (mkF m 158 #[.val (.int p0), .val (.int p1), .val (.int p2), .val (.int p3), .val (.int p4), .val (.int p5), .val (.int y7), .val (.ref b78), .unset] [])) (fun _ k => XS.ifYes X95.here hx rfl (pc0 := 149) (pc' := 158) rfl (hb hby at_149) rfl ((if0 _ _).trans (teq hc149_96).1) (by decide) (by decide) k) ?_
            refine own_go (U' := T95.setTop (mkF m 160 #[.val (.int p0), .val (.int p1), .val (.int p2), .val (.int p3), .val (.int p4), .val (.int p5), .val (.int y7), .val (.ref b78), .unset] [(.ref b78)])) (fun _ k => XS.aload X95.here hx rfl (hb hby at_158) rfl rfl k) ?_
            refine own_go (U' := T95.setTop (mkF m 161 #[.val (.int p0), .val (.int p1), .val (.int p2), .val (.int p3), .val (.int p4), .val (.int p5), .val (.int y7), .val (.ref b78), .unset] [(.int (3 : Int32)), (.ref b78)])) (fun _ k => XS.iconst X95.here hx rfl (hb hby at_160) k) ?_
            obtain ⟨_, _, ⟨T97, L97, k97, n97⟩, -, X97, ⟨Lc97, hQ97, l97, y97, z97⟩, st97⟩ := Jvm.LawKit.callS X95 hx (y := (⟨"com/example/hashtory/hashtory/TextFieldsEndOfLinesPinLaw", "lf", "([BI)Z"⟩ : MethodName)) hown (mvT hZ (hw _ (List.mem_of_getElem? (i := 2) rfl))) (mvT hZ (hw _ (List.mem_of_getElem? (i := 3) rfl))) (mvT hZ (hw _ (List.mem_of_getElem? (i := 4) rfl))) (mvT hZ (hw _ (List.mem_of_getElem? (i := 5) rfl))) (by decide) (backOf (W := 0) (rm1 l Z aw hw [] b78 (3 : Int32) k78 y7 f_ h_ n0 Z_ V_ (by first | assumption | decide)) hZ (hw _ (List.mem_of_getElem? (i := 5) rfl)) (hw _ (List.mem_of_getElem? (i := 4) rfl)) (by decide) (by decide)) (g := (mkF m 161 #[.val (.int p0), .val (.int p1), .val (.int p2), .val (.int p3), .val (.int p4), .val (.int p5), .val (.int y7), .val (.ref b78), .unset] [(.int (3 : Int32)), (.ref b78)])) rfl (by rw [hml]; rfl) (argsL := [(.ref b78), (.int (3 : Int32))]) (rest := []) (lenOf own_pd0 rfl) rfl (by show 2 * 0 + _ ≤ _; exact Nat.le_of_eq rfl) (hb hby at_161) (fun _ _ => ⟨rfl, e95, (by decide : 1 + 0 ≤ _), (by decide : 5 + 0 ≤ _)⟩)
            dsimp only [Pt.U, Pt.locs, Pt.cells, Pt.slots] at X97 l97 y97 z97 st97 hQ97
            subst l97 y97 z97
            obtain ⟨rfl, N97q, e97⟩ := hQ97
            have N97 := Fr.app N95 N97q
            refine own_go (U' := T97.setTop (mkF m 164 #[.val (.int p0), .val (.int p1), .val (.int p2), .val (.int p3), .val (.int p4), .val (.int p5), .val (.int y7), .val (.ref b78), .unset] [(.int (f_1 b78 (3 : Int32) k78 y7 f_))])) (fun _ k => st97 _ k) ?_
            refine own_go (U' := T97.setTop (mkF m 182 #[.val (.int p0), .val (.int p1), .val (.int p2), .val (.int p3), .val (.int p4), .val (.int p5), .val (.int y7), .val (.ref b78), .unset] [])) (fun _ k => XS.ifYes X97.here hx rfl (pc0 := 164) (pc' := 182) rfl (hb hby at_164) rfl ((if0 _ _).trans (teq hc149_96).1) (by decide) (by decide) k) ?_
            refine own_go (U' := T97.setTop (mkF m 183 #[.val (.int p0), .val (.int p1), .val (.int p2), .val (.int p3), .val (.int p4), .val (.int p5), .val (.int y7), .val (.ref b78), .unset] [(.int (-1 : Int32))])) (fun _ k => XS.iconst X97.here hx rfl (hb hby at_182) k) ?_
            refine own_go (U' := T97.setTop (mkF m 185 #[.val (.int p0), .val (.int p1), .val (.int p2), .val (.int p3), .val (.int p4), .val (.int p5), .val (.int y7), .val (.ref b78), .val (.int (-1 : Int32))] [])) (fun _ k => XS.istore X97.here hx rfl (hb hby at_183) rfl (l' := #[.val (.int p0), .val (.int p1), .val (.int p2), .val (.int p3), .val (.int p4), .val (.int p5), .val (.int y7), .val (.ref b78), .val (.int (-1 : Int32))]) rfl k) ?_
            refine own_go (U' := T97.setTop (mkF m 187 #[.val (.int p0), .val (.int p1), .val (.int p2), .val (.int p3), .val (.int p4), .val (.int p5), .val (.int y7), .val (.ref b78), .val (.int (-1 : Int32))] [(.ref b78)])) (fun _ k => XS.aload X97.here hx rfl (hb hby at_185) rfl rfl k) ?_
            obtain ⟨_, _, ⟨T98, L98, k98, n98⟩, -, X98, ⟨Lc98, hQ98, l98, y98, z98⟩, st98⟩ := Jvm.LawKit.callS X97 hx (y := (⟨"com/example/hashtory/hashtory/TextFields", "endOfLines", "([B)I"⟩ : MethodName)) hown (mvT hZ (hw _ (List.mem_of_getElem? (i := 6) rfl))) (mvT hZ (hw _ (List.mem_of_getElem? (i := 7) rfl))) (mvT hZ (hw _ (List.mem_of_getElem? (i := 8) rfl))) (mvT hZ (hw _ (List.mem_of_getElem? (i := 9) rfl))) (by decide) (backOf (W := 0) (rm2 l Z aw hw [] b78 k78 y7 f_ h_ n0 Z_ V_ (by first | assumption | decide)) hZ (hw _ (List.mem_of_getElem? (i := 9) rfl)) (hw _ (List.mem_of_getElem? (i := 8) rfl)) (by decide) (by decide)) (g := (mkF m 187 #[.val (.int p0), .val (.int p1), .val (.int p2), .val (.int p3), .val (.int p4), .val (.int p5), .val (.int y7), .val (.ref b78), .val (.int (-1 : Int32))] [(.ref b78)])) rfl (by rw [hml]; rfl) (argsL := [(.ref b78)]) (rest := []) (lenOf own_pd1 rfl) rfl (by show 2 * 0 + _ ≤ _; exact Nat.le_of_eq rfl) (hb hby at_187) (fun _ _ => ⟨rfl, e97, (by decide : 1 + 0 ≤ _), (by decide : 5 + 0 ≤ _)⟩)
            dsimp only [Pt.U, Pt.locs, Pt.cells, Pt.slots] at X98 l98 y98 z98 st98 hQ98
            subst l98 y98 z98
            obtain ⟨rfl, N98q, e98⟩ := hQ98
            have N98 := Fr.app N97 N98q
            refine own_go (U' := T98.setTop (mkF m 190 #[.val (.int p0), .val (.int p1), .val (.int p2), .val (.int p3), .val (.int p4), .val (.int p5), .val (.int y7), .val (.ref b78), .val (.int (-1 : Int32))] [(.int (f_2 b78 k78 y7 f_))])) (fun _ k => st98 _ k) ?_
            refine own_go (U' := T98.setTop (mkF m 192 #[.val (.int p0), .val (.int p1), .val (.int p2), .val (.int p3), .val (.int p4), .val (.int p5), .val (.int y7), .val (.ref b78), .val (.int (-1 : Int32))] [(.int (-1 : Int32)), (.int (f_2 b78 k78 y7 f_))])) (fun _ k => XS.iload X98.here hx rfl (hb hby at_190) rfl k) ?_
            have hc192_99 : (f_2 b78 k78 y7 f_) = (-1 : Int32) := (own_main hr0 hr6).trans (by simp [hc92_80, hc116_82, hc140_84, hc149_96])
            refine own_go (U' := T98.setTop (mkF m 195 #[.val (.int p0), .val (.int p1), .val (.int p2), .val (.int p3), .val (.int p4), .val (.int p5), .val (.int y7), .val (.ref b78), .val (.int (-1 : Int32))] [])) (fun _ k => XS.icmpNo X98.here hx rfl (hb hby at_192) rfl (teq hc192_99).2 k) ?_
            refine own_go (U' := T98.setTop (mkF m 196 #[.val (.int p0), .val (.int p1), .val (.int p2), .val (.int p3), .val (.int p4), .val (.int p5), .val (.int y7), .val (.ref b78), .val (.int (-1 : Int32))] [(.int (1 : Int32))])) (fun _ k => XS.iconst X98.here hx rfl (hb hby at_195) k) ?_
            refine own_go (U' := T98.setTop (mkF m 200 #[.val (.int p0), .val (.int p1), .val (.int p2), .val (.int p3), .val (.int p4), .val (.int p5), .val (.int y7), .val (.ref b78), .val (.int (-1 : Int32))] [(.int (1 : Int32))])) (fun _ k => XS.goto X98.here hx rfl (pc0 := 196) (pc' := 200) rfl (hb hby at_196) (by decide) (by decide) k) ?_
            refine own_ret X98 (v := (some (.int (1 : Int32)))) hlk (fun h => by rw [Bd.returns] at h; cases h) (by decide) (by decide) (fun fs hr => retN X98 hx (t := .boolean) Bd.returns (by simp) (hb hby at_200) hr) ?_
            show (Q0 Z p0 p1 p2 p3 p4 p5 h0 n0) _ T98.heap _
            rw [e98]
            exact ⟨rfl, N98⟩
          · refine own_go (U' := T95.setTop (mkF m 152 #[.val (.int p0), .val (.int p1), .val (.int p2), .val (.int p3), .val (.int p4), .val (.int p5), .val (.int y7), .val (.ref b78), .unset] [])) (fun _ k => XS.ifNo X95.here hx rfl (hb hby at_149) rfl ((if0 _ _).trans (feq hc149_96).1) k) ?_
            refine own_go (U' := T95.setTop (mkF m 153 #[.val (.int p0), .val (.int p1), .val (.int p2), .val (.int p3), .val (.int p4), .val (.int p5), .val (.int y7), .val (.ref b78), .unset] [(.int (3 : Int32))])) (fun _ k => XS.iconst X95.here hx rfl (hb hby at_152) k) ?_
            refine own_go (U' := T95.setTop (mkF m 155 #[.val (.int p0), .val (.int p1), .val (.int p2), .val (.int p3), .val (.int p4), .val (.int p5), .val (.int y7), .val (.ref b78), .val (.int (3 : Int32))] [])) (fun _ k => XS.istore X95.here hx rfl (hb hby at_153) rfl (l' := #[.val (.int p0), .val (.int p1), .val (.int p2), .val (.int p3), .val (.int p4), .val (.int p5), .val (.int y7), .val (.ref b78), .val (.int (3 : Int32))]) rfl k) ?_
            refine own_go (U' := T95.setTop (mkF m 185 #[.val (.int p0), .val (.int p1), .val (.int p2), .val (.int p3), .val (.int p4), .val (.int p5), .val (.int y7), .val (.ref b78), .val (.int (3 : Int32))] [])) (fun _ k => XS.goto X95.here hx rfl (pc0 := 155) (pc' := 185) rfl (hb hby at_155) (by decide) (by decide) k) ?_
            refine own_go (U' := T95.setTop (mkF m 187 #[.val (.int p0), .val (.int p1), .val (.int p2), .val (.int p3), .val (.int p4), .val (.int p5), .val (.int y7), .val (.ref b78), .val (.int (3 : Int32))] [(.ref b78)])) (fun _ k => XS.aload X95.here hx rfl (hb hby at_185) rfl rfl k) ?_
            obtain ⟨_, _, ⟨T100, L100, k100, n100⟩, -, X100, ⟨Lc100, hQ100, l100, y100, z100⟩, st100⟩ := Jvm.LawKit.callS X95 hx (y := (⟨"com/example/hashtory/hashtory/TextFields", "endOfLines", "([B)I"⟩ : MethodName)) hown (mvT hZ (hw _ (List.mem_of_getElem? (i := 6) rfl))) (mvT hZ (hw _ (List.mem_of_getElem? (i := 7) rfl))) (mvT hZ (hw _ (List.mem_of_getElem? (i := 8) rfl))) (mvT hZ (hw _ (List.mem_of_getElem? (i := 9) rfl))) (by decide) (backOf (W := 0) (rm2 l Z aw hw [] b78 k78 y7 f_ h_ n0 Z_ V_ (by first | assumption | decide)) hZ (hw _ (List.mem_of_getElem? (i := 9) rfl)) (hw _ (List.mem_of_getElem? (i := 8) rfl)) (by decide) (by decide)) (g := (mkF m 187 #[.val (.int p0), .val (.int p1), .val (.int p2), .val (.int p3), .val (.int p4), .val (.int p5), .val (.int y7), .val (.ref b78), .val (.int (3 : Int32))] [(.ref b78)])) rfl (by rw [hml]; rfl) (argsL := [(.ref b78)]) (rest := []) (lenOf own_pd1 rfl) rfl (by show 2 * 0 + _ ≤ _; exact Nat.le_of_eq rfl) (hb hby at_187) (fun _ _ => ⟨rfl, e95, (by decide : 1 + 0 ≤ _), (by decide : 5 + 0 ≤ _)⟩)
            dsimp only [Pt.U, Pt.locs, Pt.cells, Pt.slots] at X100 l100 y100 z100 st100 hQ100
            subst l100 y100 z100
            obtain ⟨rfl, N100q, e100⟩ := hQ100
            have N100 := Fr.app N95 N100q
            refine own_go (U' := T100.setTop (mkF m 190 #[.val (.int p0), .val (.int p1), .val (.int p2), .val (.int p3), .val (.int p4), .val (.int p5), .val (.int y7), .val (.ref b78), .val (.int (3 : Int32))] [(.int (f_2 b78 k78 y7 f_))])) (fun _ k => st100 _ k) ?_
            refine own_go (U' := T100.setTop (mkF m 192 #[.val (.int p0), .val (.int p1), .val (.int p2), .val (.int p3), .val (.int p4), .val (.int p5), .val (.int y7), .val (.ref b78), .val (.int (3 : Int32))] [(.int (3 : Int32)), (.int (f_2 b78 k78 y7 f_))])) (fun _ k => XS.iload X100.here hx rfl (hb hby at_190) rfl k) ?_
            have hc192_101 : (f_2 b78 k78 y7 f_) = (3 : Int32) := (own_main hr0 hr6).trans (by simp [hc92_80, hc116_82, hc140_84, hc149_96])
            refine own_go (U' := T100.setTop (mkF m 195 #[.val (.int p0), .val (.int p1), .val (.int p2), .val (.int p3), .val (.int p4), .val (.int p5), .val (.int y7), .val (.ref b78), .val (.int (3 : Int32))] [])) (fun _ k => XS.icmpNo X100.here hx rfl (hb hby at_192) rfl (teq hc192_101).2 k) ?_
            refine own_go (U' := T100.setTop (mkF m 196 #[.val (.int p0), .val (.int p1), .val (.int p2), .val (.int p3), .val (.int p4), .val (.int p5), .val (.int y7), .val (.ref b78), .val (.int (3 : Int32))] [(.int (1 : Int32))])) (fun _ k => XS.iconst X100.here hx rfl (hb hby at_195) k) ?_
            refine own_go (U' := T100.setTop (mkF m 200 #[.val (.int p0), .val (.int p1), .val (.int p2), .val (.int p3), .val (.int p4), .val (.int p5), .val (.int y7), .val (.ref b78), .val (.int (3 : Int32))] [(.int (1 : Int32))])) (fun _ k => XS.goto X100.here hx rfl (pc0 := 196) (pc' := 200) rfl (hb hby at_196) (by decide) (by decide) k) ?_
            refine own_ret X100 (v := (some (.int (1 : Int32)))) hlk (fun h => by rw [Bd.returns] at h; cases h) (by decide) (by decide) (fun fs hr => retN X100 hx (t := .boolean) Bd.returns (by simp) (hb hby at_200) hr) ?_
            show (Q0 Z p0 p1 p2 p3 p4 p5 h0 n0) _ T100.heap _
            rw [e100]
            exact ⟨rfl, N100⟩
      · refine own_go (U' := T81.setTop (mkF m 119 #[.val (.int p0), .val (.int p1), .val (.int p2), .val (.int p3), .val (.int p4), .val (.int p5), .val (.int y7), .val (.ref b78), .unset] [])) (fun _ k => XS.ifNo X81.here hx rfl (hb hby at_116) rfl ((if0 _ _).trans (feq hc116_82).1) k) ?_
        refine own_go (U' := T81.setTop (mkF m 121 #[.val (.int p0), .val (.int p1), .val (.int p2), .val (.int p3), .val (.int p4), .val (.int p5), .val (.int y7), .val (.ref b78), .unset] [(.ref b78)])) (fun _ k => XS.aload X81.here hx rfl (hb hby at_119) rfl rfl k) ?_
        refine own_go (U' := T81.setTop (mkF m 122 #[.val (.int p0), .val (.int p1), .val (.int p2), .val (.int p3), .val (.int p4), .val (.int p5), .val (.int y7), .val (.ref b78), .unset] [(.int (2 : Int32)), (.ref b78)])) (fun _ k => XS.iconst X81.here hx rfl (hb hby at_121) k) ?_
        obtain ⟨_, _, ⟨T102, L102, k102, n102⟩, -, X102, ⟨Lc102, hQ102, l102, y102, z102⟩, st102⟩ := Jvm.LawKit.callS X81 hx (y := (⟨"com/example/hashtory/hashtory/TextFieldsEndOfLinesPinLaw", "lf", "([BI)Z"⟩ : MethodName)) hown (mvT hZ (hw _ (List.mem_of_getElem? (i := 2) rfl))) (mvT hZ (hw _ (List.mem_of_getElem? (i := 3) rfl))) (mvT hZ (hw _ (List.mem_of_getElem? (i := 4) rfl))) (mvT hZ (hw _ (List.mem_of_getElem? (i := 5) rfl))) (by decide) (backOf (W := 0) (rm1 l Z aw hw [] b78 (2 : Int32) k78 y7 f_ h_ n0 Z_ V_ (by first | assumption | decide)) hZ (hw _ (List.mem_of_getElem? (i := 5) rfl)) (hw _ (List.mem_of_getElem? (i := 4) rfl)) (by decide) (by decide)) (g := (mkF m 122 #[.val (.int p0), .val (.int p1), .val (.int p2), .val (.int p3), .val (.int p4), .val (.int p5), .val (.int y7), .val (.ref b78), .unset] [(.int (2 : Int32)), (.ref b78)])) rfl (by rw [hml]; rfl) (argsL := [(.ref b78), (.int (2 : Int32))]) (rest := []) (lenOf own_pd0 rfl) rfl (by show 2 * 0 + _ ≤ _; exact Nat.le_of_eq rfl) (hb hby at_122) (fun _ _ => ⟨rfl, e81, (by decide : 1 + 0 ≤ _), (by decide : 5 + 0 ≤ _)⟩)
        dsimp only [Pt.U, Pt.locs, Pt.cells, Pt.slots] at X102 l102 y102 z102 st102 hQ102
        subst l102 y102 z102
        obtain ⟨rfl, N102q, e102⟩ := hQ102
        have N102 := Fr.app N81 N102q
        refine own_go (U' := T102.setTop (mkF m 125 #[.val (.int p0), .val (.int p1), .val (.int p2), .val (.int p3), .val (.int p4), .val (.int p5), .val (.int y7), .val (.ref b78), .unset] [(.int (f_1 b78 (2 : Int32) k78 y7 f_))])) (fun _ k => st102 _ k) ?_
        by_cases hc125_103 : (f_1 b78 (2 : Int32) k78 y7 f_) = (0 : Int32)
        · refine own_go (U' := T102.setTop (mkF m 134 #[.val (.int p0), .val (.int p1), .val (.int p2), .val (.int p3), .val (.int p4), .val (.int p5), .val (.int y7), .val (.ref b78), .unset] [])) (fun _ k => XS.ifYes X102.here hx rfl (pc0 := 125) (pc' := 134) rfl (hb hby at_125) rfl ((if0 _ _).trans (teq hc125_103).1) (by decide) (by decide) k) ?_
          refine own_go (U' := T102.setTop (mkF m 136 #[.val (.int p0), .val (.int p1), .val (.int p2), .val (.int p3), .val (.int p4), .val (.int p5), .val (.int y7), .val (.ref b78), .unset] [(.ref b78)])) (fun _ k => XS.aload X102.here hx rfl (hb hby at_134) rfl rfl k) ?_
          refine own_go (U' := T102.setTop (mkF m 137 #[.val (.int p0), .val (.int p1), .val (.int p2), .val (.int p3), .val (.int p4), .val (.int p5), .val (.int y7), .val (.ref b78), .unset] [(.int (2 : Int32)), (.ref b78)])) (fun _ k => XS.iconst X102.here hx rfl (hb hby at_136) k) ?_
          obtain ⟨_, _, ⟨T104, L104, k104, n104⟩, -, X104, ⟨Lc104, hQ104, l104, y104, z104⟩, st104⟩ := Jvm.LawKit.callS X102 hx (y := (⟨"com/example/hashtory/hashtory/TextFieldsEndOfLinesPinLaw", "lf", "([BI)Z"⟩ : MethodName)) hown (mvT hZ (hw _ (List.mem_of_getElem? (i := 2) rfl))) (mvT hZ (hw _ (List.mem_of_getElem? (i := 3) rfl))) (mvT hZ (hw _ (List.mem_of_getElem? (i := 4) rfl))) (mvT hZ (hw _ (List.mem_of_getElem? (i := 5) rfl))) (by decide) (backOf (W := 0) (rm1 l Z aw hw [] b78 (2 : Int32) k78 y7 f_ h_ n0 Z_ V_ (by first | assumption | decide)) hZ (hw _ (List.mem_of_getElem? (i := 5) rfl)) (hw _ (List.mem_of_getElem? (i := 4) rfl)) (by decide) (by decide)) (g := (mkF m 137 #[.val (.int p0), .val (.int p1), .val (.int p2), .val (.int p3), .val (.int p4), .val (.int p5), .val (.int y7), .val (.ref b78), .unset] [(.int (2 : Int32)), (.ref b78)])) rfl (by rw [hml]; rfl) (argsL := [(.ref b78), (.int (2 : Int32))]) (rest := []) (lenOf own_pd0 rfl) rfl (by show 2 * 0 + _ ≤ _; exact Nat.le_of_eq rfl) (hb hby at_137) (fun _ _ => ⟨rfl, e102, (by decide : 1 + 0 ≤ _), (by decide : 5 + 0 ≤ _)⟩)
          dsimp only [Pt.U, Pt.locs, Pt.cells, Pt.slots] at X104 l104 y104 z104 st104 hQ104
          subst l104 y104 z104
          obtain ⟨rfl, N104q, e104⟩ := hQ104
          have N104 := Fr.app N102 N104q
          refine own_go (U' := T104.setTop (mkF m 140 #[.val (.int p0), .val (.int p1), .val (.int p2), .val (.int p3), .val (.int p4), .val (.int p5), .val (.int y7), .val (.ref b78), .unset] [(.int (f_1 b78 (2 : Int32) k78 y7 f_))])) (fun _ k => st104 _ k) ?_
          refine own_go (U' := T104.setTop (mkF m 158 #[.val (.int p0), .val (.int p1), .val (.int p2), .val (.int p3), .val (.int p4), .val (.int p5), .val (.int y7), .val (.ref b78), .unset] [])) (fun _ k => XS.ifYes X104.here hx rfl (pc0 := 140) (pc' := 158) rfl (hb hby at_140) rfl ((if0 _ _).trans (teq hc125_103).1) (by decide) (by decide) k) ?_
          refine own_go (U' := T104.setTop (mkF m 160 #[.val (.int p0), .val (.int p1), .val (.int p2), .val (.int p3), .val (.int p4), .val (.int p5), .val (.int y7), .val (.ref b78), .unset] [(.ref b78)])) (fun _ k => XS.aload X104.here hx rfl (hb hby at_158) rfl rfl k) ?_
          refine own_go (U' := T104.setTop (mkF m 161 #[.val (.int p0), .val (.int p1), .val (.int p2), .val (.int p3), .val (.int p4), .val (.int p5), .val (.int y7), .val (.ref b78), .unset] [(.int (3 : Int32)), (.ref b78)])) (fun _ k => XS.iconst X104.here hx rfl (hb hby at_160) k) ?_
          obtain ⟨_, _, ⟨T105, L105, k105, n105⟩, -, X105, ⟨Lc105, hQ105, l105, y105, z105⟩, st105⟩ := Jvm.LawKit.callS X104 hx (y := (⟨"com/example/hashtory/hashtory/TextFieldsEndOfLinesPinLaw", "lf", "([BI)Z"⟩ : MethodName)) hown (mvT hZ (hw _ (List.mem_of_getElem? (i := 2) rfl))) (mvT hZ (hw _ (List.mem_of_getElem? (i := 3) rfl))) (mvT hZ (hw _ (List.mem_of_getElem? (i := 4) rfl))) (mvT hZ (hw _ (List.mem_of_getElem? (i := 5) rfl))) (by decide) (backOf (W := 0) (rm1 l Z aw hw [] b78 (3 : Int32) k78 y7 f_ h_ n0 Z_ V_ (by first | assumption | decide)) hZ (hw _ (List.mem_of_getElem? (i := 5) rfl)) (hw _ (List.mem_of_getElem? (i := 4) rfl)) (by decide) (by decide)) (g := (mkF m 161 #[.val (.int p0), .val (.int p1), .val (.int p2), .val (.int p3), .val (.int p4), .val (.int p5), .val (.int y7), .val (.ref b78), .unset] [(.int (3 : Int32)), (.ref b78)])) rfl (by rw [hml]; rfl) (argsL := [(.ref b78), (.int (3 : Int32))]) (rest := []) (lenOf own_pd0 rfl) rfl (by show 2 * 0 + _ ≤ _; exact Nat.le_of_eq rfl) (hb hby at_161) (fun _ _ => ⟨rfl, e104, (by decide : 1 + 0 ≤ _), (by decide : 5 + 0 ≤ _)⟩)
          dsimp only [Pt.U, Pt.locs, Pt.cells, Pt.slots] at X105 l105 y105 z105 st105 hQ105
          subst l105 y105 z105
          obtain ⟨rfl, N105q, e105⟩ := hQ105
          have N105 := Fr.app N104 N105q
          refine own_go (U' := T105.setTop (mkF m 164 #[.val (.int p0), .val (.int p1), .val (.int p2), .val (.int p3), .val (.int p4), .val (.int p5), .val (.int y7), .val (.ref b78), .unset] [(.int (f_1 b78 (3 : Int32) k78 y7 f_))])) (fun _ k => st105 _ k) ?_
          by_cases hc164_106 : (f_1 b78 (3 : Int32) k78 y7 f_) = (0 : Int32)
          · refine own_go (U' := T105.setTop (mkF m 182 #[.val (.int p0), .val (.int p1), .val (.int p2), .val (.int p3), .val (.int p4), .val (.int p5), .val (.int y7), .val (.ref b78), .unset] [])) (fun _ k => XS.ifYes X105.here hx rfl (pc0 := 164) (pc' := 182) rfl (hb hby at_164) rfl ((if0 _ _).trans (teq hc164_106).1) (by decide) (by decide) k) ?_
            refine own_go (U' := T105.setTop (mkF m 183 #[.val (.int p0), .val (.int p1), .val (.int p2), .val (.int p3), .val (.int p4), .val (.int p5), .val (.int y7), .val (.ref b78), .unset] [(.int (-1 : Int32))])) (fun _ k => XS.iconst X105.here hx rfl (hb hby at_182) k) ?_
            refine own_go (U' := T105.setTop (mkF m 185 #[.val (.int p0), .val (.int p1), .val (.int p2), .val (.int p3), .val (.int p4), .val (.int p5), .val (.int y7), .val (.ref b78), .val (.int (-1 : Int32))] [])) (fun _ k => XS.istore X105.here hx rfl (hb hby at_183) rfl (l' := #[.val (.int p0), .val (.int p1), .val (.int p2), .val (.int p3), .val (.int p4), .val (.int p5), .val (.int y7), .val (.ref b78), .val (.int (-1 : Int32))]) rfl k) ?_
            refine own_go (U' := T105.setTop (mkF m 187 #[.val (.int p0), .val (.int p1), .val (.int p2), .val (.int p3), .val (.int p4), .val (.int p5), .val (.int y7), .val (.ref b78), .val (.int (-1 : Int32))] [(.ref b78)])) (fun _ k => XS.aload X105.here hx rfl (hb hby at_185) rfl rfl k) ?_
            obtain ⟨_, _, ⟨T107, L107, k107, n107⟩, -, X107, ⟨Lc107, hQ107, l107, y107, z107⟩, st107⟩ := Jvm.LawKit.callS X105 hx (y := (⟨"com/example/hashtory/hashtory/TextFields", "endOfLines", "([B)I"⟩ : MethodName)) hown (mvT hZ (hw _ (List.mem_of_getElem? (i := 6) rfl))) (mvT hZ (hw _ (List.mem_of_getElem? (i := 7) rfl))) (mvT hZ (hw _ (List.mem_of_getElem? (i := 8) rfl))) (mvT hZ (hw _ (List.mem_of_getElem? (i := 9) rfl))) (by decide) (backOf (W := 0) (rm2 l Z aw hw [] b78 k78 y7 f_ h_ n0 Z_ V_ (by first | assumption | decide)) hZ (hw _ (List.mem_of_getElem? (i := 9) rfl)) (hw _ (List.mem_of_getElem? (i := 8) rfl)) (by decide) (by decide)) (g := (mkF m 187 #[.val (.int p0), .val (.int p1), .val (.int p2), .val (.int p3), .val (.int p4), .val (.int p5), .val (.int y7), .val (.ref b78), .val (.int (-1 : Int32))] [(.ref b78)])) rfl (by rw [hml]; rfl) (argsL := [(.ref b78)]) (rest := []) (lenOf own_pd1 rfl) rfl (by show 2 * 0 + _ ≤ _; exact Nat.le_of_eq rfl) (hb hby at_187) (fun _ _ => ⟨rfl, e105, (by decide : 1 + 0 ≤ _), (by decide : 5 + 0 ≤ _)⟩)
            dsimp only [Pt.U, Pt.locs, Pt.cells, Pt.slots] at X107 l107 y107 z107 st107 hQ107
            subst l107 y107 z107
            obtain ⟨rfl, N107q, e107⟩ := hQ107
            have N107 := Fr.app N105 N107q
            refine own_go (U' := T107.setTop (mkF m 190 #[.val (.int p0), .val (.int p1), .val (.int p2), .val (.int p3), .val (.int p4), .val (.int p5), .val (.int y7), .val (.ref b78), .val (.int (-1 : Int32))] [(.int (f_2 b78 k78 y7 f_))])) (fun _ k => st107 _ k) ?_
            refine own_go (U' := T107.setTop (mkF m 192 #[.val (.int p0), .val (.int p1), .val (.int p2), .val (.int p3), .val (.int p4), .val (.int p5), .val (.int y7), .val (.ref b78), .val (.int (-1 : Int32))] [(.int (-1 : Int32)), (.int (f_2 b78 k78 y7 f_))])) (fun _ k => XS.iload X107.here hx rfl (hb hby at_190) rfl k) ?_
            have hc192_108 : (f_2 b78 k78 y7 f_) = (-1 : Int32) := (own_main hr0 hr6).trans (by simp [hc92_80, hc116_82, hc125_103, hc164_106])
            refine own_go (U' := T107.setTop (mkF m 195 #[.val (.int p0), .val (.int p1), .val (.int p2), .val (.int p3), .val (.int p4), .val (.int p5), .val (.int y7), .val (.ref b78), .val (.int (-1 : Int32))] [])) (fun _ k => XS.icmpNo X107.here hx rfl (hb hby at_192) rfl (teq hc192_108).2 k) ?_
            refine own_go (U' := T107.setTop (mkF m 196 #[.val (.int p0), .val (.int p1), .val (.int p2), .val (.int p3), .val (.int p4), .val (.int p5), .val (.int y7), .val (.ref b78), .val (.int (-1 : Int32))] [(.int (1 : Int32))])) (fun _ k => XS.iconst X107.here hx rfl (hb hby at_195) k) ?_
            refine own_go (U' := T107.setTop (mkF m 200 #[.val (.int p0), .val (.int p1), .val (.int p2), .val (.int p3), .val (.int p4), .val (.int p5), .val (.int y7), .val (.ref b78), .val (.int (-1 : Int32))] [(.int (1 : Int32))])) (fun _ k => XS.goto X107.here hx rfl (pc0 := 196) (pc' := 200) rfl (hb hby at_196) (by decide) (by decide) k) ?_
            refine own_ret X107 (v := (some (.int (1 : Int32)))) hlk (fun h => by rw [Bd.returns] at h; cases h) (by decide) (by decide) (fun fs hr => retN X107 hx (t := .boolean) Bd.returns (by simp) (hb hby at_200) hr) ?_
            show (Q0 Z p0 p1 p2 p3 p4 p5 h0 n0) _ T107.heap _
            rw [e107]
            exact ⟨rfl, N107⟩
          · refine own_go (U' := T105.setTop (mkF m 167 #[.val (.int p0), .val (.int p1), .val (.int p2), .val (.int p3), .val (.int p4), .val (.int p5), .val (.int y7), .val (.ref b78), .unset] [])) (fun _ k => XS.ifNo X105.here hx rfl (hb hby at_164) rfl ((if0 _ _).trans (feq hc164_106).1) k) ?_
            refine own_go (U' := T105.setTop (mkF m 169 #[.val (.int p0), .val (.int p1), .val (.int p2), .val (.int p3), .val (.int p4), .val (.int p5), .val (.int y7), .val (.ref b78), .unset] [(.ref b78)])) (fun _ k => XS.aload X105.here hx rfl (hb hby at_167) rfl rfl k) ?_
            refine own_go (U' := T105.setTop (mkF m 170 #[.val (.int p0), .val (.int p1), .val (.int p2), .val (.int p3), .val (.int p4), .val (.int p5), .val (.int y7), .val (.ref b78), .unset] [(.int (4 : Int32)), (.ref b78)])) (fun _ k => XS.iconst X105.here hx rfl (hb hby at_169) k) ?_
            obtain ⟨_, _, ⟨T109, L109, k109, n109⟩, -, X109, ⟨Lc109, hQ109, l109, y109, z109⟩, st109⟩ := Jvm.LawKit.callS X105 hx (y := (⟨"com/example/hashtory/hashtory/TextFieldsEndOfLinesPinLaw", "lf", "([BI)Z"⟩ : MethodName)) hown (mvT hZ (hw _ (List.mem_of_getElem? (i := 2) rfl))) (mvT hZ (hw _ (List.mem_of_getElem? (i := 3) rfl))) (mvT hZ (hw _ (List.mem_of_getElem? (i := 4) rfl))) (mvT hZ (hw _ (List.mem_of_getElem? (i := 5) rfl))) (by decide) (backOf (W := 0) (rm1 l Z aw hw [] b78 (4 : Int32) k78 y7 f_ h_ n0 Z_ V_ (by first | assumption | decide)) hZ (hw _ (List.mem_of_getElem? (i := 5) rfl)) (hw _ (List.mem_of_getElem? (i := 4) rfl)) (by decide) (by decide)) (g := (mkF m 170 #[.val (.int p0), .val (.int p1), .val (.int p2), .val (.int p3), .val (.int p4), .val (.int p5), .val (.int y7), .val (.ref b78), .unset] [(.int (4 : Int32)), (.ref b78)])) rfl (by rw [hml]; rfl) (argsL := [(.ref b78), (.int (4 : Int32))]) (rest := []) (lenOf own_pd0 rfl) rfl (by show 2 * 0 + _ ≤ _; exact Nat.le_of_eq rfl) (hb hby at_170) (fun _ _ => ⟨rfl, e105, (by decide : 1 + 0 ≤ _), (by decide : 5 + 0 ≤ _)⟩)
            dsimp only [Pt.U, Pt.locs, Pt.cells, Pt.slots] at X109 l109 y109 z109 st109 hQ109
            subst l109 y109 z109
            obtain ⟨rfl, N109q, e109⟩ := hQ109
            have N109 := Fr.app N105 N109q
            refine own_go (U' := T109.setTop (mkF m 173 #[.val (.int p0), .val (.int p1), .val (.int p2), .val (.int p3), .val (.int p4), .val (.int p5), .val (.int y7), .val (.ref b78), .unset] [(.int (f_1 b78 (4 : Int32) k78 y7 f_))])) (fun _ k => st109 _ k) ?_
            by_cases hc173_110 : (f_1 b78 (4 : Int32) k78 y7 f_) = (0 : Int32)
            · refine own_go (U' := T109.setTop (mkF m 182 #[.val (.int p0), .val (.int p1), .val (.int p2), .val (.int p3), .val (.int p4), .val (.int p5), .val (.int y7), .val (.ref b78), .unset] [])) (fun _ k => XS.ifYes X109.here hx rfl (pc0 := 173) (pc' := 182) rfl (hb hby at_173) rfl ((if0 _ _).trans (teq hc173_110).1) (by decide) (by decide) k) ?_
              refine own_go (U' := T109.setTop (mkF m 183 #[.val (.int p0), .val (.int p1), .val (.int p2), .val (.int p3), .val (.int p4), .val (.int p5), .val (.int y7), .val (.ref b78), .unset] [(.int (-1 : Int32))])) (fun _ k => XS.iconst X109.here hx rfl (hb hby at_182) k) ?_
              refine own_go (U' := T109.setTop (mkF m 185 #[.val (.int p0), .val (.int p1), .val (.int p2), .val (.int p3), .val (.int p4), .val (.int p5), .val (.int y7), .val (.ref b78), .val (.int (-1 : Int32))] [])) (fun _ k => XS.istore X109.here hx rfl (hb hby at_183) rfl (l' := #[.val (.int p0), .val (.int p1), .val (.int p2), .val (.int p3), .val (.int p4), .val (.int p5), .val (.int y7), .val (.ref b78), .val (.int (-1 : Int32))]) rfl k) ?_
              refine own_go (U' := T109.setTop (mkF m 187 #[.val (.int p0), .val (.int p1), .val (.int p2), .val (.int p3), .val (.int p4), .val (.int p5), .val (.int y7), .val (.ref b78), .val (.int (-1 : Int32))] [(.ref b78)])) (fun _ k => XS.aload X109.here hx rfl (hb hby at_185) rfl rfl k) ?_
              obtain ⟨_, _, ⟨T111, L111, k111, n111⟩, -, X111, ⟨Lc111, hQ111, l111, y111, z111⟩, st111⟩ := Jvm.LawKit.callS X109 hx (y := (⟨"com/example/hashtory/hashtory/TextFields", "endOfLines", "([B)I"⟩ : MethodName)) hown (mvT hZ (hw _ (List.mem_of_getElem? (i := 6) rfl))) (mvT hZ (hw _ (List.mem_of_getElem? (i := 7) rfl))) (mvT hZ (hw _ (List.mem_of_getElem? (i := 8) rfl))) (mvT hZ (hw _ (List.mem_of_getElem? (i := 9) rfl))) (by decide) (backOf (W := 0) (rm2 l Z aw hw [] b78 k78 y7 f_ h_ n0 Z_ V_ (by first | assumption | decide)) hZ (hw _ (List.mem_of_getElem? (i := 9) rfl)) (hw _ (List.mem_of_getElem? (i := 8) rfl)) (by decide) (by decide)) (g := (mkF m 187 #[.val (.int p0), .val (.int p1), .val (.int p2), .val (.int p3), .val (.int p4), .val (.int p5), .val (.int y7), .val (.ref b78), .val (.int (-1 : Int32))] [(.ref b78)])) rfl (by rw [hml]; rfl) (argsL := [(.ref b78)]) (rest := []) (lenOf own_pd1 rfl) rfl (by show 2 * 0 + _ ≤ _; exact Nat.le_of_eq rfl) (hb hby at_187) (fun _ _ => ⟨rfl, e109, (by decide : 1 + 0 ≤ _), (by decide : 5 + 0 ≤ _)⟩)
              dsimp only [Pt.U, Pt.locs, Pt.cells, Pt.slots] at X111 l111 y111 z111 st111 hQ111
              subst l111 y111 z111
              obtain ⟨rfl, N111q, e111⟩ := hQ111
              have N111 := Fr.app N109 N111q
              refine own_go (U' := T111.setTop (mkF m 190 #[.val (.int p0), .val (.int p1), .val (.int p2), .val (.int p3), .val (.int p4), .val (.int p5), .val (.int y7), .val (.ref b78), .val (.int (-1 : Int32))] [(.int (f_2 b78 k78 y7 f_))])) (fun _ k => st111 _ k) ?_
              refine own_go (U' := T111.setTop (mkF m 192 #[.val (.int p0), .val (.int p1), .val (.int p2), .val (.int p3), .val (.int p4), .val (.int p5), .val (.int y7), .val (.ref b78), .val (.int (-1 : Int32))] [(.int (-1 : Int32)), (.int (f_2 b78 k78 y7 f_))])) (fun _ k => XS.iload X111.here hx rfl (hb hby at_190) rfl k) ?_
              have hc192_112 : (f_2 b78 k78 y7 f_) = (-1 : Int32) := (own_main hr0 hr6).trans (by simp [hc92_80, hc116_82, hc125_103, hc164_106, hc173_110])
              refine own_go (U' := T111.setTop (mkF m 195 #[.val (.int p0), .val (.int p1), .val (.int p2), .val (.int p3), .val (.int p4), .val (.int p5), .val (.int y7), .val (.ref b78), .val (.int (-1 : Int32))] [])) (fun _ k => XS.icmpNo X111.here hx rfl (hb hby at_192) rfl (teq hc192_112).2 k) ?_
              refine own_go (U' := T111.setTop (mkF m 196 #[.val (.int p0), .val (.int p1), .val (.int p2), .val (.int p3), .val (.int p4), .val (.int p5), .val (.int y7), .val (.ref b78), .val (.int (-1 : Int32))] [(.int (1 : Int32))])) (fun _ k => XS.iconst X111.here hx rfl (hb hby at_195) k) ?_
              refine own_go (U' := T111.setTop (mkF m 200 #[.val (.int p0), .val (.int p1), .val (.int p2), .val (.int p3), .val (.int p4), .val (.int p5), .val (.int y7), .val (.ref b78), .val (.int (-1 : Int32))] [(.int (1 : Int32))])) (fun _ k => XS.goto X111.here hx rfl (pc0 := 196) (pc' := 200) rfl (hb hby at_196) (by decide) (by decide) k) ?_
              refine own_ret X111 (v := (some (.int (1 : Int32)))) hlk (fun h => by rw [Bd.returns] at h; cases h) (by decide) (by decide) (fun fs hr => retN X111 hx (t := .boolean) Bd.returns (by simp) (hb hby at_200) hr) ?_
              show (Q0 Z p0 p1 p2 p3 p4 p5 h0 n0) _ T111.heap _
              rw [e111]
              exact ⟨rfl, N111⟩
            · refine own_go (U' := T109.setTop (mkF m 176 #[.val (.int p0), .val (.int p1), .val (.int p2), .val (.int p3), .val (.int p4), .val (.int p5), .val (.int y7), .val (.ref b78), .unset] [])) (fun _ k => XS.ifNo X109.here hx rfl (hb hby at_173) rfl ((if0 _ _).trans (feq hc173_110).1) k) ?_
              refine own_go (U' := T109.setTop (mkF m 177 #[.val (.int p0), .val (.int p1), .val (.int p2), .val (.int p3), .val (.int p4), .val (.int p5), .val (.int y7), .val (.ref b78), .unset] [(.int (4 : Int32))])) (fun _ k => XS.iconst X109.here hx rfl (hb hby at_176) k) ?_
              refine own_go (U' := T109.setTop (mkF m 179 #[.val (.int p0), .val (.int p1), .val (.int p2), .val (.int p3), .val (.int p4), .val (.int p5), .val (.int y7), .val (.ref b78), .val (.int (4 : Int32))] [])) (fun _ k => XS.istore X109.here hx rfl (hb hby at_177) rfl (l' := #[.val (.int p0), .val (.int p1), .val (.int p2), .val (.int p3), .val (.int p4), .val (.int p5), .val (.int y7), .val (.ref b78), .val (.int (4 : Int32))]) rfl k) ?_
              refine own_go (U' := T109.setTop (mkF m 185 #[.val (.int p0), .val (.int p1), .val (.int p2), .val (.int p3), .val (.int p4), .val (.int p5), .val (.int y7), .val (.ref b78), .val (.int (4 : Int32))] [])) (fun _ k => XS.goto X109.here hx rfl (pc0 := 179) (pc' := 185) rfl (hb hby at_179) (by decide) (by decide) k) ?_
              refine own_go (U' := T109.setTop (mkF m 187 #[.val (.int p0), .val (.int p1), .val (.int p2), .val (.int p3), .val (.int p4), .val (.int p5), .val (.int y7), .val (.ref b78), .val (.int (4 : Int32))] [(.ref b78)])) (fun _ k => XS.aload X109.here hx rfl (hb hby at_185) rfl rfl k) ?_
              obtain ⟨_, _, ⟨T113, L113, k113, n113⟩, -, X113, ⟨Lc113, hQ113, l113, y113, z113⟩, st113⟩ := Jvm.LawKit.callS X109 hx (y := (⟨"com/example/hashtory/hashtory/TextFields", "endOfLines", "([B)I"⟩ : MethodName)) hown (mvT hZ (hw _ (List.mem_of_getElem? (i := 6) rfl))) (mvT hZ (hw _ (List.mem_of_getElem? (i := 7) rfl))) (mvT hZ (hw _ (List.mem_of_getElem? (i := 8) rfl))) (mvT hZ (hw _ (List.mem_of_getElem? (i := 9) rfl))) (by decide) (backOf (W := 0) (rm2 l Z aw hw [] b78 k78 y7 f_ h_ n0 Z_ V_ (by first | assumption | decide)) hZ (hw _ (List.mem_of_getElem? (i := 9) rfl)) (hw _ (List.mem_of_getElem? (i := 8) rfl)) (by decide) (by decide)) (g := (mkF m 187 #[.val (.int p0), .val (.int p1), .val (.int p2), .val (.int p3), .val (.int p4), .val (.int p5), .val (.int y7), .val (.ref b78), .val (.int (4 : Int32))] [(.ref b78)])) rfl (by rw [hml]; rfl) (argsL := [(.ref b78)]) (rest := []) (lenOf own_pd1 rfl) rfl (by show 2 * 0 + _ ≤ _; exact Nat.le_of_eq rfl) (hb hby at_187) (fun _ _ => ⟨rfl, e109, (by decide : 1 + 0 ≤ _), (by decide : 5 + 0 ≤ _)⟩)
              dsimp only [Pt.U, Pt.locs, Pt.cells, Pt.slots] at X113 l113 y113 z113 st113 hQ113
              subst l113 y113 z113
              obtain ⟨rfl, N113q, e113⟩ := hQ113
              have N113 := Fr.app N109 N113q
              refine own_go (U' := T113.setTop (mkF m 190 #[.val (.int p0), .val (.int p1), .val (.int p2), .val (.int p3), .val (.int p4), .val (.int p5), .val (.int y7), .val (.ref b78), .val (.int (4 : Int32))] [(.int (f_2 b78 k78 y7 f_))])) (fun _ k => st113 _ k) ?_
              refine own_go (U' := T113.setTop (mkF m 192 #[.val (.int p0), .val (.int p1), .val (.int p2), .val (.int p3), .val (.int p4), .val (.int p5), .val (.int y7), .val (.ref b78), .val (.int (4 : Int32))] [(.int (4 : Int32)), (.int (f_2 b78 k78 y7 f_))])) (fun _ k => XS.iload X113.here hx rfl (hb hby at_190) rfl k) ?_
              have hc192_114 : (f_2 b78 k78 y7 f_) = (4 : Int32) := (own_main hr0 hr6).trans (by simp [hc92_80, hc116_82, hc125_103, hc164_106, hc173_110])
              refine own_go (U' := T113.setTop (mkF m 195 #[.val (.int p0), .val (.int p1), .val (.int p2), .val (.int p3), .val (.int p4), .val (.int p5), .val (.int y7), .val (.ref b78), .val (.int (4 : Int32))] [])) (fun _ k => XS.icmpNo X113.here hx rfl (hb hby at_192) rfl (teq hc192_114).2 k) ?_
              refine own_go (U' := T113.setTop (mkF m 196 #[.val (.int p0), .val (.int p1), .val (.int p2), .val (.int p3), .val (.int p4), .val (.int p5), .val (.int y7), .val (.ref b78), .val (.int (4 : Int32))] [(.int (1 : Int32))])) (fun _ k => XS.iconst X113.here hx rfl (hb hby at_195) k) ?_
              refine own_go (U' := T113.setTop (mkF m 200 #[.val (.int p0), .val (.int p1), .val (.int p2), .val (.int p3), .val (.int p4), .val (.int p5), .val (.int y7), .val (.ref b78), .val (.int (4 : Int32))] [(.int (1 : Int32))])) (fun _ k => XS.goto X113.here hx rfl (pc0 := 196) (pc' := 200) rfl (hb hby at_196) (by decide) (by decide) k) ?_
              refine own_ret X113 (v := (some (.int (1 : Int32)))) hlk (fun h => by rw [Bd.returns] at h; cases h) (by decide) (by decide) (fun fs hr => retN X113 hx (t := .boolean) Bd.returns (by simp) (hb hby at_200) hr) ?_
              show (Q0 Z p0 p1 p2 p3 p4 p5 h0 n0) _ T113.heap _
              rw [e113]
              exact ⟨rfl, N113⟩
        · refine own_go (U' := T102.setTop (mkF m 128 #[.val (.int p0), .val (.int p1), .val (.int p2), .val (.int p3), .val (.int p4), .val (.int p5), .val (.int y7), .val (.ref b78), .unset] [])) (fun _ k => XS.ifNo X102.here hx rfl (hb hby at_125) rfl ((if0 _ _).trans (feq hc125_103).1) k) ?_
          refine own_go (U' := T102.setTop (mkF m 129 #[.val (.int p0), .val (.int p1), .val (.int p2), .val (.int p3), .val (.int p4), .val (.int p5), .val (.int y7), .val (.ref b78), .unset] [(.int (2 : Int32))])) (fun _ k => XS.iconst X102.here hx rfl (hb hby at_128) k) ?_
          refine own_go (U' := T102.setTop (mkF m 131 #[.val (.int p0), .val (.int p1), .val (.int p2), .val (.int p3), .val (.int p4), .val (.int p5), .val (.int y7), .val (.ref b78), .val (.int (2 : Int32))] [])) (fun _ k => XS.istore X102.here hx rfl (hb hby at_129) rfl (l' := #[.val (.int p0), .val (.int p1), .val (.int p2), .val (.int p3), .val (.int p4), .val (.int p5), .val (.int y7), .val (.ref b78), .val (.int (2 : Int32))]) rfl k) ?_
          refine own_go (U' := T102.setTop (mkF m 185 #[.val (.int p0), .val (.int p1), .val (.int p2), .val (.int p3), .val (.int p4), .val (.int p5), .val (.int y7), .val (.ref b78), .val (.int (2 : Int32))] [])) (fun _ k => XS.goto X102.here hx rfl (pc0 := 131) (pc' := 185) rfl (hb hby at_131) (by decide) (by decide) k) ?_
          refine own_go (U' := T102.setTop (mkF m 187 #[.val (.int p0), .val (.int p1), .val (.int p2), .val (.int p3), .val (.int p4), .val (.int p5), .val (.int y7), .val (.ref b78), .val (.int (2 : Int32))] [(.ref b78)])) (fun _ k => XS.aload X102.here hx rfl (hb hby at_185) rfl rfl k) ?_
          obtain ⟨_, _, ⟨T115, L115, k115, n115⟩, -, X115, ⟨Lc115, hQ115, l115, y115, z115⟩, st115⟩ := Jvm.LawKit.callS X102 hx (y := (⟨"com/example/hashtory/hashtory/TextFields", "endOfLines", "([B)I"⟩ : MethodName)) hown (mvT hZ (hw _ (List.mem_of_getElem? (i := 6) rfl))) (mvT hZ (hw _ (List.mem_of_getElem? (i := 7) rfl))) (mvT hZ (hw _ (List.mem_of_getElem? (i := 8) rfl))) (mvT hZ (hw _ (List.mem_of_getElem? (i := 9) rfl))) (by decide) (backOf (W := 0) (rm2 l Z aw hw [] b78 k78 y7 f_ h_ n0 Z_ V_ (by first | assumption | decide)) hZ (hw _ (List.mem_of_getElem? (i := 9) rfl)) (hw _ (List.mem_of_getElem? (i := 8) rfl)) (by decide) (by decide)) (g := (mkF m 187 #[.val (.int p0), .val (.int p1), .val (.int p2), .val (.int p3), .val (.int p4), .val (.int p5), .val (.int y7), .val (.ref b78), .val (.int (2 : Int32))] [(.ref b78)])) rfl (by rw [hml]; rfl) (argsL := [(.ref b78)]) (rest := []) (lenOf own_pd1 rfl) rfl (by show 2 * 0 + _ ≤ _; exact Nat.le_of_eq rfl) (hb hby at_187) (fun _ _ => ⟨rfl, e102, (by decide : 1 + 0 ≤ _), (by decide : 5 + 0 ≤ _)⟩)
          dsimp only [Pt.U, Pt.locs, Pt.cells, Pt.slots] at X115 l115 y115 z115 st115 hQ115
          subst l115 y115 z115
          obtain ⟨rfl, N115q, e115⟩ := hQ115
          have N115 := Fr.app N102 N115q
          refine own_go (U' := T115.setTop (mkF m 190 #[.val (.int p0), .val (.int p1), .val (.int p2), .val (.int p3), .val (.int p4), .val (.int p5), .val (.int y7), .val (.ref b78), .val (.int (2 : Int32))] [(.int (f_2 b78 k78 y7 f_))])) (fun _ k => st115 _ k) ?_
          refine own_go (U' := T115.setTop (mkF m 192 #[.val (.int p0), .val (.int p1), .val (.int p2), .val (.int p3), .val (.int p4), .val (.int p5), .val (.int y7), .val (.ref b78), .val (.int (2 : Int32))] [(.int (2 : Int32)), (.int (f_2 b78 k78 y7 f_))])) (fun _ k => XS.iload X115.here hx rfl (hb hby at_190) rfl k) ?_
          have hc192_116 : (f_2 b78 k78 y7 f_) = (2 : Int32) := (own_main hr0 hr6).trans (by simp [hc92_80, hc116_82, hc125_103])
          refine own_go (U' := T115.setTop (mkF m 195 #[.val (.int p0), .val (.int p1), .val (.int p2), .val (.int p3), .val (.int p4), .val (.int p5), .val (.int y7), .val (.ref b78), .val (.int (2 : Int32))] [])) (fun _ k => XS.icmpNo X115.here hx rfl (hb hby at_192) rfl (teq hc192_116).2 k) ?_
          refine own_go (U' := T115.setTop (mkF m 196 #[.val (.int p0), .val (.int p1), .val (.int p2), .val (.int p3), .val (.int p4), .val (.int p5), .val (.int y7), .val (.ref b78), .val (.int (2 : Int32))] [(.int (1 : Int32))])) (fun _ k => XS.iconst X115.here hx rfl (hb hby at_195) k) ?_
          refine own_go (U' := T115.setTop (mkF m 200 #[.val (.int p0), .val (.int p1), .val (.int p2), .val (.int p3), .val (.int p4), .val (.int p5), .val (.int y7), .val (.ref b78), .val (.int (2 : Int32))] [(.int (1 : Int32))])) (fun _ k => XS.goto X115.here hx rfl (pc0 := 196) (pc' := 200) rfl (hb hby at_196) (by decide) (by decide) k) ?_
          refine own_ret X115 (v := (some (.int (1 : Int32)))) hlk (fun h => by rw [Bd.returns] at h; cases h) (by decide) (by decide) (fun fs hr => retN X115 hx (t := .boolean) Bd.returns (by simp) (hb hby at_200) hr) ?_
          show (Q0 Z p0 p1 p2 p3 p4 p5 h0 n0) _ T115.heap _
          rw [e115]
          exact ⟨rfl, N115⟩
    · refine own_go (U' := T79.setTop (mkF m 95 #[.val (.int p0), .val (.int p1), .val (.int p2), .val (.int p3), .val (.int p4), .val (.int p5), .val (.int y7), .val (.ref b78), .unset] [])) (fun _ k => XS.ifNo X79.here hx rfl (hb hby at_92) rfl ((if0 _ _).trans (feq hc92_80).1) k) ?_
      refine own_go (U' := T79.setTop (mkF m 97 #[.val (.int p0), .val (.int p1), .val (.int p2), .val (.int p3), .val (.int p4), .val (.int p5), .val (.int y7), .val (.ref b78), .unset] [(.ref b78)])) (fun _ k => XS.aload X79.here hx rfl (hb hby at_95) rfl rfl k) ?_
      refine own_go (U' := T79.setTop (mkF m 98 #[.val (.int p0), .val (.int p1), .val (.int p2), .val (.int p3), .val (.int p4), .val (.int p5), .val (.int y7), .val (.ref b78), .unset] [(.int (1 : Int32)), (.ref b78)])) (fun _ k => XS.iconst X79.here hx rfl (hb hby at_97) k) ?_
      obtain ⟨_, _, ⟨T117, L117, k117, n117⟩, -, X117, ⟨Lc117, hQ117, l117, y117, z117⟩, st117⟩ := Jvm.LawKit.callS X79 hx (y := (⟨"com/example/hashtory/hashtory/TextFieldsEndOfLinesPinLaw", "lf", "([BI)Z"⟩ : MethodName)) hown (mvT hZ (hw _ (List.mem_of_getElem? (i := 2) rfl))) (mvT hZ (hw _ (List.mem_of_getElem? (i := 3) rfl))) (mvT hZ (hw _ (List.mem_of_getElem? (i := 4) rfl))) (mvT hZ (hw _ (List.mem_of_getElem? (i := 5) rfl))) (by decide) (backOf (W := 0) (rm1 l Z aw hw [] b78 (1 : Int32) k78 y7 f_ h_ n0 Z_ V_ (by first | assumption | decide)) hZ (hw _ (List.mem_of_getElem? (i := 5) rfl)) (hw _ (List.mem_of_getElem? (i := 4) rfl)) (by decide) (by decide)) (g := (mkF m 98 #[.val (.int p0), .val (.int p1), .val (.int p2), .val (.int p3), .val (.int p4), .val (.int p5), .val (.int y7), .val (.ref b78), .unset] [(.int (1 : Int32)), (.ref b78)])) rfl (by rw [hml]; rfl) (argsL := [(.ref b78), (.int (1 : Int32))]) (rest := []) (lenOf own_pd0 rfl) rfl (by show 2 * 0 + _ ≤ _; exact Nat.le_of_eq rfl) (hb hby at_98) (fun _ _ => ⟨rfl, e79, (by decide : 1 + 0 ≤ _), (by decide : 5 + 0 ≤ _)⟩)
      dsimp only [Pt.U, Pt.locs, Pt.cells, Pt.slots] at X117 l117 y117 z117 st117 hQ117
      subst l117 y117 z117
      obtain ⟨rfl, N117q, e117⟩ := hQ117
      have N117 := Fr.app N79 N117q
      refine own_go (U' := T117.setTop (mkF m 101 #[.val (.int p0), .val (.int p1), .val (.int p2), .val (.int p3), .val (.int p4), .val (.int p5), .val (.int y7), .val (.ref b78), .unset] [(.int (f_1 b78 (1 : Int32) k78 y7 f_))])) (fun _ k => st117 _ k) ?_
      by_cases hc101_118 : (f_1 b78 (1 : Int32) k78 y7 f_) = (0 : Int32)
      · refine own_go (U' := T117.setTop (mkF m 110 #[.val (.int p0), .val (.int p1), .val (.int p2), .val (.int p3), .val (.int p4), .val (.int p5), .val (.int y7), .val (.ref b78), .unset] [])) (fun _ k => XS.ifYes X117.here hx rfl (pc0 := 101) (pc' := 110) rfl (hb hby at_101) rfl ((if0 _ _).trans (teq hc101_118).1) (by decide) (by decide) k) ?_
        refine own_go (U' := T117.setTop (mkF m 112 #[.val (.int p0), .val (.int p1), .val (.int p2), .val (.int p3), .val (.int p4), .val (.int p5), .val (.int y7), .val (.ref b78), .unset] [(.ref b78)])) (fun _ k => XS.aload X117.here hx rfl (hb hby at_110) rfl rfl k) ?_
        refine own_go (U' := T117.setTop (mkF m 113 #[.val (.int p0), .val (.int p1), .val (.int p2), .val (.int p3), .val (.int p4), .val (.int p5), .val (.int y7), .val (.ref b78), .unset] [(.int (1 : Int32)), (.ref b78)])) (fun _ k => XS.iconst X117.here hx rfl (hb hby at_112) k) ?_
        obtain ⟨_, _, ⟨T119, L119, k119, n119⟩, -, X119, ⟨Lc119, hQ119, l119, y119, z119⟩, st119⟩ := Jvm.LawKit.callS X117 hx (y := (⟨"com/example/hashtory/hashtory/TextFieldsEndOfLinesPinLaw", "lf", "([BI)Z"⟩ : MethodName)) hown (mvT hZ (hw _ (List.mem_of_getElem? (i := 2) rfl))) (mvT hZ (hw _ (List.mem_of_getElem? (i := 3) rfl))) (mvT hZ (hw _ (List.mem_of_getElem? (i := 4) rfl))) (mvT hZ (hw _ (List.mem_of_getElem? (i := 5) rfl))) (by decide) (backOf (W := 0) (rm1 l Z aw hw [] b78 (1 : Int32) k78 y7 f_ h_ n0 Z_ V_ (by first | assumption | decide)) hZ (hw _ (List.mem_of_getElem? (i := 5) rfl)) (hw _ (List.mem_of_getElem? (i := 4) rfl)) (by decide) (by decide)) (g := (mkF m 113 #[.val (.int p0), .val (.int p1), .val (.int p2), .val (.int p3), .val (.int p4), .val (.int p5), .val (.int y7), .val (.ref b78), .unset] [(.int (1 : Int32)), (.ref b78)])) rfl (by rw [hml]; rfl) (argsL := [(.ref b78), (.int (1 : Int32))]) (rest := []) (lenOf own_pd0 rfl) rfl (by show 2 * 0 + _ ≤ _; exact Nat.le_of_eq rfl) (hb hby at_113) (fun _ _ => ⟨rfl, e117, (by decide : 1 + 0 ≤ _), (by decide : 5 + 0 ≤ _)⟩)
        dsimp only [Pt.U, Pt.locs, Pt.cells, Pt.slots] at X119 l119 y119 z119 st119 hQ119
        subst l119 y119 z119
        obtain ⟨rfl, N119q, e119⟩ := hQ119
        have N119 := Fr.app N117 N119q
        refine own_go (U' := T119.setTop (mkF m 116 #[.val (.int p0), .val (.int p1), .val (.int p2), .val (.int p3), .val (.int p4), .val (.int p5), .val (.int y7), .val (.ref b78), .unset] [(.int (f_1 b78 (1 : Int32) k78 y7 f_))])) (fun _ k => st119 _ k) ?_
        refine own_go (U' := T119.setTop (mkF m 134 #[.val (.int p0), .val (.int p1), .val (.int p2), .val (.int p3), .val (.int p4), .val (.int p5), .val (.int y7), .val (.ref b78), .unset] [])) (fun _ k => XS.ifYes X119.here hx rfl (pc0 := 116) (pc' := 134) rfl (hb hby at_116) rfl ((if0 _ _).trans (teq hc101_118).1) (by decide) (by decide) k) ?_
        refine own_go (U' := T119.setTop (mkF m 136 #[.val (.int p0), .val (.int p1), .val (.int p2), .val (.int p3), .val (.int p4), .val (.int p5), .val (.int y7), .val (.ref b78), .unset] [(.ref b78)])) (fun _ k => XS.aload X119.here hx rfl (hb hby at_134) rfl rfl k) ?_
        refine own_go (U' := T119.setTop (mkF m 137 #[.val (.int p0), .val (.int p1), .val (.int p2), .val (.int p3), .val (.int p4), .val (.int p5), .val (.int y7), .val (.ref b78), .unset] [(.int (2 : Int32)), (.ref b78)])) (fun _ k => XS.iconst X119.here hx rfl (hb hby at_136) k) ?_
        obtain ⟨_, _, ⟨T120, L120, k120, n120⟩, -, X120, ⟨Lc120, hQ120, l120, y120, z120⟩, st120⟩ := Jvm.LawKit.callS X119 hx (y := (⟨"com/example/hashtory/hashtory/TextFieldsEndOfLinesPinLaw", "lf", "([BI)Z"⟩ : MethodName)) hown (mvT hZ (hw _ (List.mem_of_getElem? (i := 2) rfl))) (mvT hZ (hw _ (List.mem_of_getElem? (i := 3) rfl))) (mvT hZ (hw _ (List.mem_of_getElem? (i := 4) rfl))) (mvT hZ (hw _ (List.mem_of_getElem? (i := 5) rfl))) (by decide) (backOf (W := 0) (rm1 l Z aw hw [] b78 (2 : Int32) k78 y7 f_ h_ n0 Z_ V_ (by first | assumption | decide)) hZ (hw _ (List.mem_of_getElem? (i := 5) rfl)) (hw _ (List.mem_of_getElem? (i := 4) rfl)) (by decide) (by decide)) (g := (mkF m 137 #[.val (.int p0), .val (.int p1), .val (.int p2), .val (.int p3), .val (.int p4), .val (.int p5), .val (.int y7), .val (.ref b78), .unset] [(.int (2 : Int32)), (.ref b78)])) rfl (by rw [hml]; rfl) (argsL := [(.ref b78), (.int (2 : Int32))]) (rest := []) (lenOf own_pd0 rfl) rfl (by show 2 * 0 + _ ≤ _; exact Nat.le_of_eq rfl) (hb hby at_137) (fun _ _ => ⟨rfl, e119, (by decide : 1 + 0 ≤ _), (by decide : 5 + 0 ≤ _)⟩)
        dsimp only [Pt.U, Pt.locs, Pt.cells, Pt.slots] at X120 l120 y120 z120 st120 hQ120
        subst l120 y120 z120
        obtain ⟨rfl, N120q, e120⟩ := hQ120
        have N120 := Fr.app N119 N120q
        refine own_go (U' := T120.setTop (mkF m 140 #[.val (.int p0), .val (.int p1), .val (.int p2), .val (.int p3), .val (.int p4), .val (.int p5), .val (.int y7), .val (.ref b78), .unset] [(.int (f_1 b78 (2 : Int32) k78 y7 f_))])) (fun _ k => st120 _ k) ?_
        by_cases hc140_121 : (f_1 b78 (2 : Int32) k78 y7 f_) = (0 : Int32)
        · refine own_go (U' := T120.setTop (mkF m 158 #[.val (.int p0), .val (.int p1), .val (.int p2), .val (.int p3), .val (.int p4), .val (.int p5), .val (.int y7), .val (.ref b78), .unset] [])) (fun _ k => XS.ifYes X120.here hx rfl (pc0 := 140) (pc' := 158) rfl (hb hby at_140) rfl ((if0 _ _).trans (teq hc140_121).1) (by decide) (by decide) k) ?_
          refine own_go (U' := T120.setTop (mkF m 160 #[.val (.int p0), .val (.int p1), .val (.int p2), .val (.int p3), .val (.int p4), .val (.int p5), .val (.int y7), .val (.ref b78), .unset] [(.ref b78)])) (fun _ k => XS.aload X120.here hx rfl (hb hby at_158) rfl rfl k) ?_
          refine own_go (U' := T120.setTop (mkF m 161 #[.val (.int p0), .val (.int p1), .val (.int p2), .val (.int p3), .val (.int p4), .val (.int p5), .val (.int y7), .val (.ref b78), .unset] [(.int (3 : Int32)), (.ref b78)])) (fun _ k => XS.iconst X120.here hx rfl (hb hby at_160) k) ?_
          obtain ⟨_, _, ⟨T122, L122, k122, n122⟩, -, X122, ⟨Lc122, hQ122, l122, y122, z122⟩, st122⟩ := Jvm.LawKit.callS X120 hx (y := (⟨"com/example/hashtory/hashtory/TextFieldsEndOfLinesPinLaw", "lf", "([BI)Z"⟩ : MethodName)) hown (mvT hZ (hw _ (List.mem_of_getElem? (i := 2) rfl))) (mvT hZ (hw _ (List.mem_of_getElem? (i := 3) rfl))) (mvT hZ (hw _ (List.mem_of_getElem? (i := 4) rfl))) (mvT hZ (hw _ (List.mem_of_getElem? (i := 5) rfl))) (by decide) (backOf (W := 0) (rm1 l Z aw hw [] b78 (3 : Int32) k78 y7 f_ h_ n0 Z_ V_ (by first | assumption | decide)) hZ (hw _ (List.mem_of_getElem? (i := 5) rfl)) (hw _ (List.mem_of_getElem? (i := 4) rfl)) (by decide) (by decide)) (g := (mkF m 161 #[.val (.int p0), .val (.int p1), .val (.int p2), .val (.int p3), .val (.int p4), .val (.int p5), .val (.int y7), .val (.ref b78), .unset] [(.int (3 : Int32)), (.ref b78)])) rfl (by rw [hml]; rfl) (argsL := [(.ref b78), (.int (3 : Int32))]) (rest := []) (lenOf own_pd0 rfl) rfl (by show 2 * 0 + _ ≤ _; exact Nat.le_of_eq rfl) (hb hby at_161) (fun _ _ => ⟨rfl, e120, (by decide : 1 + 0 ≤ _), (by decide : 5 + 0 ≤ _)⟩)
          dsimp only [Pt.U, Pt.locs, Pt.cells, Pt.slots] at X122 l122 y122 z122 st122 hQ122
          subst l122 y122 z122
          obtain ⟨rfl, N122q, e122⟩ := hQ122
          have N122 := Fr.app N120 N122q
          refine own_go (U' := T122.setTop (mkF m 164 #[.val (.int p0), .val (.int p1), .val (.int p2), .val (.int p3), .val (.int p4), .val (.int p5), .val (.int y7), .val (.ref b78), .unset] [(.int (f_1 b78 (3 : Int32) k78 y7 f_))])) (fun _ k => st122 _ k) ?_
          by_cases hc164_123 : (f_1 b78 (3 : Int32) k78 y7 f_) = (0 : Int32)
          · refine own_go (U' := T122.setTop (mkF m 182 #[.val (.int p0), .val (.int p1), .val (.int p2), .val (.int p3), .val (.int p4), .val (.int p5), .val (.int y7), .val (.ref b78), .unset] [])) (fun _ k => XS.ifYes X122.here hx rfl (pc0 := 164) (pc' := 182) rfl (hb hby at_164) rfl ((if0 _ _).trans (teq hc164_123).1) (by decide) (by decide) k) ?_
            refine own_go (U' := T122.setTop (mkF m 183 #[.val (.int p0), .val (.int p1), .val (.int p2), .val (.int p3), .val (.int p4), .val (.int p5), .val (.int y7), .val (.ref b78), .unset] [(.int (-1 : Int32))])) (fun _ k => XS.iconst X122.here hx rfl (hb hby at_182) k) ?_
            refine own_go (U' := T122.setTop (mkF m 185 #[.val (.int p0), .val (.int p1), .val (.int p2), .val (.int p3), .val (.int p4), .val (.int p5), .val (.int y7), .val (.ref b78), .val (.int (-1 : Int32))] [])) (fun _ k => XS.istore X122.here hx rfl (hb hby at_183) rfl (l' := #[.val (.int p0), .val (.int p1), .val (.int p2), .val (.int p3), .val (.int p4), .val (.int p5), .val (.int y7), .val (.ref b78), .val (.int (-1 : Int32))]) rfl k) ?_
            refine own_go (U' := T122.setTop (mkF m 187 #[.val (.int p0), .val (.int p1), .val (.int p2), .val (.int p3), .val (.int p4), .val (.int p5), .val (.int y7), .val (.ref b78), .val (.int (-1 : Int32))] [(.ref b78)])) (fun _ k => XS.aload X122.here hx rfl (hb hby at_185) rfl rfl k) ?_
            obtain ⟨_, _, ⟨T124, L124, k124, n124⟩, -, X124, ⟨Lc124, hQ124, l124, y124, z124⟩, st124⟩ := Jvm.LawKit.callS X122 hx (y := (⟨"com/example/hashtory/hashtory/TextFields", "endOfLines", "([B)I"⟩ : MethodName)) hown (mvT hZ (hw _ (List.mem_of_getElem? (i := 6) rfl))) (mvT hZ (hw _ (List.mem_of_getElem? (i := 7) rfl))) (mvT hZ (hw _ (List.mem_of_getElem? (i := 8) rfl))) (mvT hZ (hw _ (List.mem_of_getElem? (i := 9) rfl))) (by decide) (backOf (W := 0) (rm2 l Z aw hw [] b78 k78 y7 f_ h_ n0 Z_ V_ (by first | assumption | decide)) hZ (hw _ (List.mem_of_getElem? (i := 9) rfl)) (hw _ (List.mem_of_getElem? (i := 8) rfl)) (by decide) (by decide)) (g := (mkF m 187 #[.val (.int p0), .val (.int p1), .val (.int p2), .val (.int p3), .val (.int p4), .val (.int p5), .val (.int y7), .val (.ref b78), .val (.int (-1 : Int32))] [(.ref b78)])) rfl (by rw [hml]; rfl) (argsL := [(.ref b78)]) (rest := []) (lenOf own_pd1 rfl) rfl (by show 2 * 0 + _ ≤ _; exact Nat.le_of_eq rfl) (hb hby at_187) (fun _ _ => ⟨rfl, e122, (by decide : 1 + 0 ≤ _), (by decide : 5 + 0 ≤ _)⟩)
            dsimp only [Pt.U, Pt.locs, Pt.cells, Pt.slots] at X124 l124 y124 z124 st124 hQ124
            subst l124 y124 z124
            obtain ⟨rfl, N124q, e124⟩ := hQ124
            have N124 := Fr.app N122 N124q
            refine own_go (U' := T124.setTop (mkF m 190 #[.val (.int p0), .val (.int p1), .val (.int p2), .val (.int p3), .val (.int p4), .val (.int p5), .val (.int y7), .val (.ref b78), .val (.int (-1 : Int32))] [(.int (f_2 b78 k78 y7 f_))])) (fun _ k => st124 _ k) ?_
            refine own_go (U' := T124.setTop (mkF m 192 #[.val (.int p0), .val (.int p1), .val (.int p2), .val (.int p3), .val (.int p4), .val (.int p5), .val (.int y7), .val (.ref b78), .val (.int (-1 : Int32))] [(.int (-1 : Int32)), (.int (f_2 b78 k78 y7 f_))])) (fun _ k => XS.iload X124.here hx rfl (hb hby at_190) rfl k) ?_
            have hc192_125 : (f_2 b78 k78 y7 f_) = (-1 : Int32) := (own_main hr0 hr6).trans (by simp [hc92_80, hc101_118, hc140_121, hc164_123])
            refine own_go (U' := T124.setTop (mkF m 195 #[.val (.int p0), .val (.int p1), .val (.int p2), .val (.int p3), .val (.int p4), .val (.int p5), .val (.int y7), .val (.ref b78), .val (.int (-1 : Int32))] [])) (fun _ k => XS.icmpNo X124.here hx rfl (hb hby at_192) rfl (teq hc192_125).2 k) ?_
            refine own_go (U' := T124.setTop (mkF m 196 #[.val (.int p0), .val (.int p1), .val (.int p2), .val (.int p3), .val (.int p4), .val (.int p5), .val (.int y7), .val (.ref b78), .val (.int (-1 : Int32))] [(.int (1 : Int32))])) (fun _ k => XS.iconst X124.here hx rfl (hb hby at_195) k) ?_
            refine own_go (U' := T124.setTop (mkF m 200 #[.val (.int p0), .val (.int p1), .val (.int p2), .val (.int p3), .val (.int p4), .val (.int p5), .val (.int y7), .val (.ref b78), .val (.int (-1 : Int32))] [(.int (1 : Int32))])) (fun _ k => XS.goto X124.here hx rfl (pc0 := 196) (pc' := 200) rfl (hb hby at_196) (by decide) (by decide) k) ?_
            refine own_ret X124 (v := (some (.int (1 : Int32)))) hlk (fun h => by rw [Bd.returns] at h; cases h) (by decide) (by decide) (fun fs hr => retN X124 hx (t := .boolean) Bd.returns (by simp) (hb hby at_200) hr) ?_
            show (Q0 Z p0 p1 p2 p3 p4 p5 h0 n0) _ T124.heap _
            rw [e124]
            exact ⟨rfl, N124⟩
          · refine own_go (U' := T122.setTop (mkF m 167 #[.val (.int p0), .val (.int p1), .val (.int p2), .val (.int p3), .val (.int p4), .val (.int p5), .val (.int y7), .val (.ref b78), .unset] [])) (fun _ k => XS.ifNo X122.here hx rfl (hb hby at_164) rfl ((if0 _ _).trans (feq hc164_123).1) k) ?_
            refine own_go (U' := T122.setTop (mkF m 169 #[.val (.int p0), .val (.int p1), .val (.int p2), .val (.int p3), .val (.int p4), .val (.int p5), .val (.int y7), .val (.ref b78), .unset] [(.ref b78)])) (fun _ k => XS.aload X122.here hx rfl (hb hby at_167) rfl rfl k) ?_
            refine own_go (U' := T122.setTop (mkF m 170 #[.val (.int p0), .val (.int p1), .val (.int p2), .val (.int p3), .val (.int p4), .val (.int p5), .val (.int y7), .val (.ref b78), .unset] [(.int (4 : Int32)), (.ref b78)])) (fun _ k => XS.iconst X122.here hx rfl (hb hby at_169) k) ?_
            obtain ⟨_, _, ⟨T126, L126, k126, n126⟩, -, X126, ⟨Lc126, hQ126, l126, y126, z126⟩, st126⟩ := Jvm.LawKit.callS X122 hx (y := (⟨"com/example/hashtory/hashtory/TextFieldsEndOfLinesPinLaw", "lf", "([BI)Z"⟩ : MethodName)) hown (mvT hZ (hw _ (List.mem_of_getElem? (i := 2) rfl))) (mvT hZ (hw _ (List.mem_of_getElem? (i := 3) rfl))) (mvT hZ (hw _ (List.mem_of_getElem? (i := 4) rfl))) (mvT hZ (hw _ (List.mem_of_getElem? (i := 5) rfl))) (by decide) (backOf (W := 0) (rm1 l Z aw hw [] b78 (4 : Int32) k78 y7 f_ h_ n0 Z_ V_ (by first | assumption | decide)) hZ (hw _ (List.mem_of_getElem? (i := 5) rfl)) (hw _ (List.mem_of_getElem? (i := 4) rfl)) (by decide) (by decide)) (g := (mkF m 170 #[.val (.int p0), .val (.int p1), .val (.int p2), .val (.int p3), .val (.int p4), .val (.int p5), .val (.int y7), .val (.ref b78), .unset] [(.int (4 : Int32)), (.ref b78)])) rfl (by rw [hml]; rfl) (argsL := [(.ref b78), (.int (4 : Int32))]) (rest := []) (lenOf own_pd0 rfl) rfl (by show 2 * 0 + _ ≤ _; exact Nat.le_of_eq rfl) (hb hby at_170) (fun _ _ => ⟨rfl, e122, (by decide : 1 + 0 ≤ _), (by decide : 5 + 0 ≤ _)⟩)
            dsimp only [Pt.U, Pt.locs, Pt.cells, Pt.slots] at X126 l126 y126 z126 st126 hQ126
            subst l126 y126 z126
            obtain ⟨rfl, N126q, e126⟩ := hQ126
            have N126 := Fr.app N122 N126q
            refine own_go (U' := T126.setTop (mkF m 173 #[.val (.int p0), .val (.int p1), .val (.int p2), .val (.int p3), .val (.int p4), .val (.int p5), .val (.int y7), .val (.ref b78), .unset] [(.int (f_1 b78 (4 : Int32) k78 y7 f_))])) (fun _ k => st126 _ k) ?_
            by_cases hc173_127 : (f_1 b78 (4 : Int32) k78 y7 f_) = (0 : Int32)
            · refine own_go (U' := T126.setTop (mkF m 182 #[.val (.int p0), .val (.int p1), .val (.int p2), .val (.int p3), .val (.int p4), .val (.int p5), .val (.int y7), .val (.ref b78), .unset] [])) (fun _ k => XS.ifYes X126.here hx rfl (pc0 := 173) (pc' := 182) rfl (hb hby at_173) rfl ((if0 _ _).trans (teq hc173_127).1) (by decide) (by decide) k) ?_
              refine own_go (U' := T126.setTop (mkF m 183 #[.val (.int p0), .val (.int p1), .val (.int p2), .val (.int p3), .val (.int p4), .val (.int p5), .val (.int y7), .val (.ref b78), .unset] [(.int (-1 : Int32))])) (fun _ k => XS.iconst X126.here hx rfl (hb hby at_182) k) ?_
              refine own_go (U' := T126.setTop (mkF m 185 #[.val (.int p0), .val (.int p1), .val (.int p2), .val (.int p3), .val (.int p4), .val (.int p5), .val (.int y7), .val (.ref b78), .val (.int (-1 : Int32))] [])) (fun _ k => XS.istore X126.here hx rfl (hb hby at_183) rfl (l' := #[.val (.int p0), .val (.int p1), .val (.int p2), .val (.int p3), .val (.int p4), .val (.int p5), .val (.int y7), .val (.ref b78), .val (.int (-1 : Int32))]) rfl k) ?_
              refine own_go (U' := T126.setTop (mkF m 187 #[.val (.int p0), .val (.int p1), .val (.int p2), .val (.int p3), .val (.int p4), .val (.int p5), .val (.int y7), .val (.ref b78), .val (.int (-1 : Int32))] [(.ref b78)])) (fun _ k => XS.aload X126.here hx rfl (hb hby at_185) rfl rfl k) ?_
              obtain ⟨_, _, ⟨T128, L128, k128, n128⟩, -, X128, ⟨Lc128, hQ128, l128, y128, z128⟩, st128⟩ := Jvm.LawKit.callS X126 hx (y := (⟨"com/example/hashtory/hashtory/TextFields", "endOfLines", "([B)I"⟩ : MethodName)) hown (mvT hZ (hw _ (List.mem_of_getElem? (i := 6) rfl))) (mvT hZ (hw _ (List.mem_of_getElem? (i := 7) rfl))) (mvT hZ (hw _ (List.mem_of_getElem? (i := 8) rfl))) (mvT hZ (hw _ (List.mem_of_getElem? (i := 9) rfl))) (by decide) (backOf (W := 0) (rm2 l Z aw hw [] b78 k78 y7 f_ h_ n0 Z_ V_ (by first | assumption | decide)) hZ (hw _ (List.mem_of_getElem? (i := 9) rfl)) (hw _ (List.mem_of_getElem? (i := 8) rfl)) (by decide) (by decide)) (g := (mkF m 187 #[.val (.int p0), .val (.int p1), .val (.int p2), .val (.int p3), .val (.int p4), .val (.int p5), .val (.int y7), .val (.ref b78), .val (.int (-1 : Int32))] [(.ref b78)])) rfl (by rw [hml]; rfl) (argsL := [(.ref b78)]) (rest := []) (lenOf own_pd1 rfl) rfl (by show 2 * 0 + _ ≤ _; exact Nat.le_of_eq rfl) (hb hby at_187) (fun _ _ => ⟨rfl, e126, (by decide : 1 + 0 ≤ _), (by decide : 5 + 0 ≤ _)⟩)
              dsimp only [Pt.U, Pt.locs, Pt.cells, Pt.slots] at X128 l128 y128 z128 st128 hQ128
              subst l128 y128 z128
              obtain ⟨rfl, N128q, e128⟩ := hQ128
              have N128 := Fr.app N126 N128q
              refine own_go (U' := T128.setTop (mkF m 190 #[.val (.int p0), .val (.int p1), .val (.int p2), .val (.int p3), .val (.int p4), .val (.int p5), .val (.int y7), .val (.ref b78), .val (.int (-1 : Int32))] [(.int (f_2 b78 k78 y7 f_))])) (fun _ k => st128 _ k) ?_
              refine own_go (U' := T128.setTop (mkF m 192 #[.val (.int p0), .val (.int p1), .val (.int p2), .val (.int p3), .val (.int p4), .val (.int p5), .val (.int y7), .val (.ref b78), .val (.int (-1 : Int32))] [(.int (-1 : Int32)), (.int (f_2 b78 k78 y7 f_))])) (fun _ k => XS.iload X128.here hx rfl (hb hby at_190) rfl k) ?_
              have hc192_129 : (f_2 b78 k78 y7 f_) = (-1 : Int32) := (own_main hr0 hr6).trans (by simp [hc92_80, hc101_118, hc140_121, hc164_123, hc173_127])
              refine own_go (U' := T128.setTop (mkF m 195 #[.val (.int p0), .val (.int p1), .val (.int p2), .val (.int p3), .val (.int p4), .val (.int p5), .val (.int y7), .val (.ref b78), .val (.int (-1 : Int32))] [])) (fun _ k => XS.icmpNo X128.here hx rfl (hb hby at_192) rfl (teq hc192_129).2 k) ?_
              refine own_go (U' := T128.setTop (mkF m 196 #[.val (.int p0), .val (.int p1), .val (.int p2), .val (.int p3), .val (.int p4), .val (.int p5), .val (.int y7), .val (.ref b78), .val (.int (-1 : Int32))] [(.int (1 : Int32))])) (fun _ k => XS.iconst X128.here hx rfl (hb hby at_195) k) ?_
              refine own_go (U' := T128.setTop (mkF m 200 #[.val (.int p0), .val (.int p1), .val (.int p2), .val (.int p3), .val (.int p4), .val (.int p5), .val (.int y7), .val (.ref b78), .val (.int (-1 : Int32))] [(.int (1 : Int32))])) (fun _ k => XS.goto X128.here hx rfl (pc0 := 196) (pc' := 200) rfl (hb hby at_196) (by decide) (by decide) k) ?_
              refine own_ret X128 (v := (some (.int (1 : Int32)))) hlk (fun h => by rw [Bd.returns] at h; cases h) (by decide) (by decide) (fun fs hr => retN X128 hx (t := .boolean) Bd.returns (by simp) (hb hby at_200) hr) ?_
              show (Q0 Z p0 p1 p2 p3 p4 p5 h0 n0) _ T128.heap _
              rw [e128]
              exact ⟨rfl, N128⟩
            · refine own_go (U' := T126.setTop (mkF m 176 #[.val (.int p0), .val (.int p1), .val (.int p2), .val (.int p3), .val (.int p4), .val (.int p5), .val (.int y7), .val (.ref b78), .unset] [])) (fun _ k => XS.ifNo X126.here hx rfl (hb hby at_173) rfl ((if0 _ _).trans (feq hc173_127).1) k) ?_
              refine own_go (U' := T126.setTop (mkF m 177 #[.val (.int p0), .val (.int p1), .val (.int p2), .val (.int p3), .val (.int p4), .val (.int p5), .val (.int y7), .val (.ref b78), .unset] [(.int (4 : Int32))])) (fun _ k => XS.iconst X126.here hx rfl (hb hby at_176) k) ?_
              refine own_go (U' := T126.setTop (mkF m 179 #[.val (.int p0), .val (.int p1), .val (.int p2), .val (.int p3), .val (.int p4), .val (.int p5), .val (.int y7), .val (.ref b78), .val (.int (4 : Int32))] [])) (fun _ k => XS.istore X126.here hx rfl (hb hby at_177) rfl (l' := #[.val (.int p0), .val (.int p1), .val (.int p2), .val (.int p3), .val (.int p4), .val (.int p5), .val (.int y7), .val (.ref b78), .val (.int (4 : Int32))]) rfl k) ?_
              refine own_go (U' := T126.setTop (mkF m 185 #[.val (.int p0), .val (.int p1), .val (.int p2), .val (.int p3), .val (.int p4), .val (.int p5), .val (.int y7), .val (.ref b78), .val (.int (4 : Int32))] [])) (fun _ k => XS.goto X126.here hx rfl (pc0 := 179) (pc' := 185) rfl (hb hby at_179) (by decide) (by decide) k) ?_
              refine own_go (U' := T126.setTop (mkF m 187 #[.val (.int p0), .val (.int p1), .val (.int p2), .val (.int p3), .val (.int p4), .val (.int p5), .val (.int y7), .val (.ref b78), .val (.int (4 : Int32))] [(.ref b78)])) (fun _ k => XS.aload X126.here hx rfl (hb hby at_185) rfl rfl k) ?_
              obtain ⟨_, _, ⟨T130, L130, k130, n130⟩, -, X130, ⟨Lc130, hQ130, l130, y130, z130⟩, st130⟩ := Jvm.LawKit.callS X126 hx (y := (⟨"com/example/hashtory/hashtory/TextFields", "endOfLines", "([B)I"⟩ : MethodName)) hown (mvT hZ (hw _ (List.mem_of_getElem? (i := 6) rfl))) (mvT hZ (hw _ (List.mem_of_getElem? (i := 7) rfl))) (mvT hZ (hw _ (List.mem_of_getElem? (i := 8) rfl))) (mvT hZ (hw _ (List.mem_of_getElem? (i := 9) rfl))) (by decide) (backOf (W := 0) (rm2 l Z aw hw [] b78 k78 y7 f_ h_ n0 Z_ V_ (by first | assumption | decide)) hZ (hw _ (List.mem_of_getElem? (i := 9) rfl)) (hw _ (List.mem_of_getElem? (i := 8) rfl)) (by decide) (by decide)) (g := (mkF m 187 #[.val (.int p0), .val (.int p1), .val (.int p2), .val (.int p3), .val (.int p4), .val (.int p5), .val (.int y7), .val (.ref b78), .val (.int (4 : Int32))] [(.ref b78)])) rfl (by rw [hml]; rfl) (argsL := [(.ref b78)]) (rest := []) (lenOf own_pd1 rfl) rfl (by show 2 * 0 + _ ≤ _; exact Nat.le_of_eq rfl) (hb hby at_187) (fun _ _ => ⟨rfl, e126, (by decide : 1 + 0 ≤ _), (by decide : 5 + 0 ≤ _)⟩)
              dsimp only [Pt.U, Pt.locs, Pt.cells, Pt.slots] at X130 l130 y130 z130 st130 hQ130
              subst l130 y130 z130
              obtain ⟨rfl, N130q, e130⟩ := hQ130
              have N130 := Fr.app N126 N130q
              refine own_go (U' := T130.setTop (mkF m 190 #[.val (.int p0), .val (.int p1), .val (.int p2), .val (.int p3), .val (.int p4), .val (.int p5), .val (.int y7), .val (.ref b78), .val (.int (4 : Int32))] [(.int (f_2 b78 k78 y7 f_))])) (fun _ k => st130 _ k) ?_
              refine own_go (U' := T130.setTop (mkF m 192 #[.val (.int p0), .val (.int p1), .val (.int p2), .val (.int p3), .val (.int p4), .val (.int p5), .val (.int y7), .val (.ref b78), .val (.int (4 : Int32))] [(.int (4 : Int32)), (.int (f_2 b78 k78 y7 f_))])) (fun _ k => XS.iload X130.here hx rfl (hb hby at_190) rfl k) ?_
              have hc192_131 : (f_2 b78 k78 y7 f_) = (4 : Int32) := (own_main hr0 hr6).trans (by simp [hc92_80, hc101_118, hc140_121, hc164_123, hc173_127])
              refine own_go (U' := T130.setTop (mkF m 195 #[.val (.int p0), .val (.int p1), .val (.int p2), .val (.int p3), .val (.int p4), .val (.int p5), .val (.int y7), .val (.ref b78), .val (.int (4 : Int32))] [])) (fun _ k => XS.icmpNo X130.here hx rfl (hb hby at_192) rfl (teq hc192_131).2 k) ?_
              refine own_go (U' := T130.setTop (mkF m 196 #[.val (.int p0), .val (.int p1), .val (.int p2), .val (.int p3), .val (.int p4), .val (.int p5), .val (.int y7), .val (.ref b78), .val (.int (4 : Int32))] [(.int (1 : Int32))])) (fun _ k => XS.iconst X130.here hx rfl (hb hby at_195) k) ?_
              refine own_go (U' := T130.setTop (mkF m 200 #[.val (.int p0), .val (.int p1), .val (.int p2), .val (.int p3), .val (.int p4), .val (.int p5), .val (.int y7), .val (.ref b78), .val (.int (4 : Int32))] [(.int (1 : Int32))])) (fun _ k => XS.goto X130.here hx rfl (pc0 := 196) (pc' := 200) rfl (hb hby at_196) (by decide) (by decide) k) ?_
              refine own_ret X130 (v := (some (.int (1 : Int32)))) hlk (fun h => by rw [Bd.returns] at h; cases h) (by decide) (by decide) (fun fs hr => retN X130 hx (t := .boolean) Bd.returns (by simp) (hb hby at_200) hr) ?_
              show (Q0 Z p0 p1 p2 p3 p4 p5 h0 n0) _ T130.heap _
              rw [e130]
              exact ⟨rfl, N130⟩
        · refine own_go (U' := T120.setTop (mkF m 143 #[.val (.int p0), .val (.int p1), .val (.int p2), .val (.int p3), .val (.int p4), .val (.int p5), .val (.int y7), .val (.ref b78), .unset] [])) (fun _ k => XS.ifNo X120.here hx rfl (hb hby at_140) rfl ((if0 _ _).trans (feq hc140_121).1) k) ?_
          refine own_go (U' := T120.setTop (mkF m 145 #[.val (.int p0), .val (.int p1), .val (.int p2), .val (.int p3), .val (.int p4), .val (.int p5), .val (.int y7), .val (.ref b78), .unset] [(.ref b78)])) (fun _ k => XS.aload X120.here hx rfl (hb hby at_143) rfl rfl k) ?_
          refine own_go (U' := T120.setTop (mkF m 146 #[.val (.int p0), .val (.int p1), .val (.int p2), .val (.int p3), .val (.int p4), .val (.int p5), .val (.int y7), .val (.ref b78), .unset] [(.int (3 : Int32)), (.ref b78)])) (fun _ k => XS.iconst X120.here hx rfl (hb hby at_145) k) ?_
          obtain ⟨_, _, ⟨T132, L132, k132, n132⟩, -, X132, ⟨Lc132, hQ132, l132, y132, z132⟩, st132⟩ := Jvm.LawKit.callS X120 hx (y := (⟨"com/example/hashtory/hashtory/TextFieldsEndOfLinesPinLaw", "lf", "([BI)Z"⟩ : MethodName)) hown (mvT hZ (hw _ (List.mem_of_getElem? (i := 2) rfl))) (mvT hZ (hw _ (List.mem_of_getElem? (i := 3) rfl))) (mvT hZ (hw _ (List.mem_of_getElem? (i := 4) rfl))) (mvT hZ (hw _ (List.mem_of_getElem? (i := 5) rfl))) (by decide) (backOf (W := 0) (rm1 l Z aw hw [] b78 (3 : Int32) k78 y7 f_ h_ n0 Z_ V_ (by first | assumption | decide)) hZ (hw _ (List.mem_of_getElem? (i := 5) rfl)) (hw _ (List.mem_of_getElem? (i := 4) rfl)) (by decide) (by decide)) (g := (mkF m 146 #[.val (.int p0), .val (.int p1), .val (.int p2), .val (.int p3), .val (.int p4), .val (.int p5), .val (.int y7), .val (.ref b78), .unset] [(.int (3 : Int32)), (.ref b78)])) rfl (by rw [hml]; rfl) (argsL := [(.ref b78), (.int (3 : Int32))]) (rest := []) (lenOf own_pd0 rfl) rfl (by show 2 * 0 + _ ≤ _; exact Nat.le_of_eq rfl) (hb hby at_146) (fun _ _ => ⟨rfl, e120, (by decide : 1 + 0 ≤ _), (by decide : 5 + 0 ≤ _)⟩)
          dsimp only [Pt.U, Pt.locs, Pt.cells, Pt.slots] at X132 l132 y132 z132 st132 hQ132
          subst l132 y132 z132
          obtain ⟨rfl, N132q, e132⟩ := hQ132
          have N132 := Fr.app N120 N132q
          refine own_go (U' := T132.setTop (mkF m 149 #[.val (.int p0), .val (.int p1), .val (.int p2), .val (.int p3), .val (.int p4), .val (.int p5), .val (.int y7), .val (.ref b78), .unset] [(.int (f_1 b78 (3 : Int32) k78 y7 f_))])) (fun _ k => st132 _ k) ?_
          by_cases hc149_133 : (f_1 b78 (3 : Int32) k78 y7 f_) = (0 : Int32)
          · refine own_go (U' := T132.setTop (mkF m 158 #[.val (.int p0), .val (.int p1), .val (.int p2), .val (.int p3), .val (.int p4), .val (.int p5), .val (.int y7), .val (.ref b78), .unset] [])) (fun _ k => XS.ifYes X132.here hx rfl (pc0 := 149) (pc' := 158) rfl (hb hby at_149) rfl ((if0 _ _).trans (teq hc149_133).1) (by decide) (by decide) k) ?_
            refine own_go (U' := T132.setTop (mkF m 160 #[.val (.int p0), .val (.int p1), .val (.int p2), .val (.int p3), .val (.int p4), .val (.int p5), .val (.int y7), .val (.ref b78), .unset] [(.ref b78)])) (fun _ k => XS.aload X132.here hx rfl (hb hby at_158) rfl rfl k) ?_
            refine own_go (U' := T132.setTop (mkF m 161 #[.val (.int p0), .val (.int p1), .val (.int p2), .val (.int p3), .val (.int p4), .val (.int p5), .val (.int y7), .val (.ref b78), .unset] [(.int (3 : Int32)), (.ref b78)])) (fun _ k => XS.iconst X132.here hx rfl (hb hby at_160) k) ?_
            obtain ⟨_, _, ⟨T134, L134, k134, n134⟩, -, X134, ⟨Lc134, hQ134, l134, y134, z134⟩, st134⟩ := Jvm.LawKit.callS X132 hx (y := (⟨"com/example/hashtory/hashtory/TextFieldsEndOfLinesPinLaw", "lf", "([BI)Z"⟩ : MethodName)) hown (mvT hZ (hw _ (List.mem_of_getElem? (i := 2) rfl))) (mvT hZ (hw _ (List.mem_of_getElem? (i := 3) rfl))) (mvT hZ (hw _ (List.mem_of_getElem? (i := 4) rfl))) (mvT hZ (hw _ (List.mem_of_getElem? (i := 5) rfl))) (by decide) (backOf (W := 0) (rm1 l Z aw hw [] b78 (3 : Int32) k78 y7 f_ h_ n0 Z_ V_ (by first | assumption | decide)) hZ (hw _ (List.mem_of_getElem? (i := 5) rfl)) (hw _ (List.mem_of_getElem? (i := 4) rfl)) (by decide) (by decide)) (g := (mkF m 161 #[.val (.int p0), .val (.int p1), .val (.int p2), .val (.int p3), .val (.int p4), .val (.int p5), .val (.int y7), .val (.ref b78), .unset] [(.int (3 : Int32)), (.ref b78)])) rfl (by rw [hml]; rfl) (argsL := [(.ref b78), (.int (3 : Int32))]) (rest := []) (lenOf own_pd0 rfl) rfl (by show 2 * 0 + _ ≤ _; exact Nat.le_of_eq rfl) (hb hby at_161) (fun _ _ => ⟨rfl, e132, (by decide : 1 + 0 ≤ _), (by decide : 5 + 0 ≤ _)⟩)
            dsimp only [Pt.U, Pt.locs, Pt.cells, Pt.slots] at X134 l134 y134 z134 st134 hQ134
            subst l134 y134 z134
            obtain ⟨rfl, N134q, e134⟩ := hQ134
            have N134 := Fr.app N132 N134q
            refine own_go (U' := T134.setTop (mkF m 164 #[.val (.int p0), .val (.int p1), .val (.int p2), .val (.int p3), .val (.int p4), .val (.int p5), .val (.int y7), .val (.ref b78), .unset] [(.int (f_1 b78 (3 : Int32) k78 y7 f_))])) (fun _ k => st134 _ k) ?_
            refine own_go (U' := T134.setTop (mkF m 182 #[.val (.int p0), .val (.int p1), .val (.int p2), .val (.int p3), .val (.int p4), .val (.int p5), .val (.int y7), .val (.ref b78), .unset] [])) (fun _ k => XS.ifYes X134.here hx rfl (pc0 := 164) (pc' := 182) rfl (hb hby at_164) rfl ((if0 _ _).trans (teq hc149_133).1) (by decide) (by decide) k) ?_
            refine own_go (U' := T134.setTop (mkF m 183 #[.val (.int p0), .val (.int p1), .val (.int p2), .val (.int p3), .val (.int p4), .val (.int p5), .val (.int y7), .val (.ref b78), .unset] [(.int (-1 : Int32))])) (fun _ k => XS.iconst X134.here hx rfl (hb hby at_182) k) ?_
            refine own_go (U' := T134.setTop (mkF m 185 #[.val (.int p0), .val (.int p1), .val (.int p2), .val (.int p3), .val (.int p4), .val (.int p5), .val (.int y7), .val (.ref b78), .val (.int (-1 : Int32))] [])) (fun _ k => XS.istore X134.here hx rfl (hb hby at_183) rfl (l' := #[.val (.int p0), .val (.int p1), .val (.int p2), .val (.int p3), .val (.int p4), .val (.int p5), .val (.int y7), .val (.ref b78), .val (.int (-1 : Int32))]) rfl k) ?_
            refine own_go (U' := T134.setTop (mkF m 187 #[.val (.int p0), .val (.int p1), .val (.int p2), .val (.int p3), .val (.int p4), .val (.int p5), .val (.int y7), .val (.ref b78), .val (.int (-1 : Int32))] [(.ref b78)])) (fun _ k => XS.aload X134.here hx rfl (hb hby at_185) rfl rfl k) ?_
            obtain ⟨_, _, ⟨T135, L135, k135, n135⟩, -, X135, ⟨Lc135, hQ135, l135, y135, z135⟩, st135⟩ := Jvm.LawKit.callS X134 hx (y := (⟨"com/example/hashtory/hashtory/TextFields", "endOfLines", "([B)I"⟩ : MethodName)) hown (mvT hZ (hw _ (List.mem_of_getElem? (i := 6) rfl))) (mvT hZ (hw _ (List.mem_of_getElem? (i := 7) rfl))) (mvT hZ (hw _ (List.mem_of_getElem? (i := 8) rfl))) (mvT hZ (hw _ (List.mem_of_getElem? (i := 9) rfl))) (by decide) (backOf (W := 0) (rm2 l Z aw hw [] b78 k78 y7 f_ h_ n0 Z_ V_ (by first | assumption | decide)) hZ (hw _ (List.mem_of_getElem? (i := 9) rfl)) (hw _ (List.mem_of_getElem? (i := 8) rfl)) (by decide) (by decide)) (g := (mkF m 187 #[.val (.int p0), .val (.int p1), .val (.int p2), .val (.int p3), .val (.int p4), .val (.int p5), .val (.int y7), .val (.ref b78), .val (.int (-1 : Int32))] [(.ref b78)])) rfl (by rw [hml]; rfl) (argsL := [(.ref b78)]) (rest := []) (lenOf own_pd1 rfl) rfl (by show 2 * 0 + _ ≤ _; exact Nat.le_of_eq rfl) (hb hby at_187) (fun _ _ => ⟨rfl, e134, (by decide : 1 + 0 ≤ _), (by decide : 5 + 0 ≤ _)⟩)
            dsimp only [Pt.U, Pt.locs, Pt.cells, Pt.slots] at X135 l135 y135 z135 st135 hQ135
            subst l135 y135 z135
            obtain ⟨rfl, N135q, e135⟩ := hQ135
            have N135 := Fr.app N134 N135q
            refine own_go (U' := T135.setTop (mkF m 190 #[.val (.int p0), .val (.int p1), .val (.int p2), .val (.int p3), .val (.int p4), .val (.int p5), .val (.int y7), .val (.ref b78), .val (.int (-1 : Int32))] [(.int (f_2 b78 k78 y7 f_))])) (fun _ k => st135 _ k) ?_
            refine own_go (U' := T135.setTop (mkF m 192 #[.val (.int p0), .val (.int p1), .val (.int p2), .val (.int p3), .val (.int p4), .val (.int p5), .val (.int y7), .val (.ref b78), .val (.int (-1 : Int32))] [(.int (-1 : Int32)), (.int (f_2 b78 k78 y7 f_))])) (fun _ k => XS.iload X135.here hx rfl (hb hby at_190) rfl k) ?_
            have hc192_136 : (f_2 b78 k78 y7 f_) = (-1 : Int32) := (own_main hr0 hr6).trans (by simp [hc92_80, hc101_118, hc140_121, hc149_133])
            refine own_go (U' := T135.setTop (mkF m 195 #[.val (.int p0), .val (.int p1), .val (.int p2), .val (.int p3), .val (.int p4), .val (.int p5), .val (.int y7), .val (.ref b78), .val (.int (-1 : Int32))] [])) (fun _ k => XS.icmpNo X135.here hx rfl (hb hby at_192) rfl (teq hc192_136).2 k) ?_
            refine own_go (U' := T135.setTop (mkF m 196 #[.val (.int p0), .val (.int p1), .val (.int p2), .val (.int p3), .val (.int p4), .val (.int p5), .val (.int y7), .val (.ref b78), .val (.int (-1 : Int32))] [(.int (1 : Int32))])) (fun _ k => XS.iconst X135.here hx rfl (hb hby at_195) k) ?_
            refine own_go (U' := T135.setTop (mkF m 200 #[.val (.int p0), .val (.int p1), .val (.int p2), .val (.int p3), .val (.int p4), .val (.int p5), .val (.int y7), .val (.ref b78), .val (.int (-1 : Int32))] [(.int (1 : Int32))])) (fun _ k => XS.goto X135.here hx rfl (pc0 := 196) (pc' := 200) rfl (hb hby at_196) (by decide) (by decide) k) ?_
            refine own_ret X135 (v := (some (.int (1 : Int32)))) hlk (fun h => by rw [Bd.returns] at h; cases h) (by decide) (by decide) (fun fs hr => retN X135 hx (t := .boolean) Bd.returns (by simp) (hb hby at_200) hr) ?_
            show (Q0 Z p0 p1 p2 p3 p4 p5 h0 n0) _ T135.heap _
            rw [e135]
            exact ⟨rfl, N135⟩
          · refine own_go (U' := T132.setTop (mkF m 152 #[.val (.int p0), .val (.int p1), .val (.int p2), .val (.int p3), .val (.int p4), .val (.int p5), .val (.int y7), .val (.ref b78), .unset] [])) (fun _ k => XS.ifNo X132.here hx rfl (hb hby at_149) rfl ((if0 _ _).trans (feq hc149_133).1) k) ?_
            refine own_go (U' := T132.setTop (mkF m 153 #[.val (.int p0), .val (.int p1), .val (.int p2), .val (.int p3), .val (.int p4), .val (.int p5), .val (.int y7), .val (.ref b78), .unset] [(.int (3 : Int32))])) (fun _ k => XS.iconst X132.here hx rfl (hb hby at_152) k) ?_
            refine own_go (U' := T132.setTop (mkF m 155 #[.val (.int p0), .val (.int p1), .val (.int p2), .val (.int p3), .val (.int p4), .val (.int p5), .val (.int y7), .val (.ref b78), .val (.int (3 : Int32))] [])) (fun _ k => XS.istore X132.here hx rfl (hb hby at_153) rfl (l' := #[.val (.int p0), .val (.int p1), .val (.int p2), .val (.int p3), .val (.int p4), .val (.int p5), .val (.int y7), .val (.ref b78), .val (.int (3 : Int32))]) rfl k) ?_
            refine own_go (U' := T132.setTop (mkF m 185 #[.val (.int p0), .val (.int p1), .val (.int p2), .val (.int p3), .val (.int p4), .val (.int p5), .val (.int y7), .val (.ref b78), .val (.int (3 : Int32))] [])) (fun _ k => XS.goto X132.here hx rfl (pc0 := 155) (pc' := 185) rfl (hb hby at_155) (by decide) (by decide) k) ?_
            refine own_go (U' := T132.setTop (mkF m 187 #[.val (.int p0), .val (.int p1), .val (.int p2), .val (.int p3), .val (.int p4), .val (.int p5), .val (.int y7), .val (.ref b78), .val (.int (3 : Int32))] [(.ref b78)])) (fun _ k => XS.aload X132.here hx rfl (hb hby at_185) rfl rfl k) ?_
            obtain ⟨_, _, ⟨T137, L137, k137, n137⟩, -, X137, ⟨Lc137, hQ137, l137, y137, z137⟩, st137⟩ := Jvm.LawKit.callS X132 hx (y := (⟨"com/example/hashtory/hashtory/TextFields", "endOfLines", "([B)I"⟩ : MethodName)) hown (mvT hZ (hw _ (List.mem_of_getElem? (i := 6) rfl))) (mvT hZ (hw _ (List.mem_of_getElem? (i := 7) rfl))) (mvT hZ (hw _ (List.mem_of_getElem? (i := 8) rfl))) (mvT hZ (hw _ (List.mem_of_getElem? (i := 9) rfl))) (by decide) (backOf (W := 0) (rm2 l Z aw hw [] b78 k78 y7 f_ h_ n0 Z_ V_ (by first | assumption | decide)) hZ (hw _ (List.mem_of_getElem? (i := 9) rfl)) (hw _ (List.mem_of_getElem? (i := 8) rfl)) (by decide) (by decide)) (g := (mkF m 187 #[.val (.int p0), .val (.int p1), .val (.int p2), .val (.int p3), .val (.int p4), .val (.int p5), .val (.int y7), .val (.ref b78), .val (.int (3 : Int32))] [(.ref b78)])) rfl (by rw [hml]; rfl) (argsL := [(.ref b78)]) (rest := []) (lenOf own_pd1 rfl) rfl (by show 2 * 0 + _ ≤ _; exact Nat.le_of_eq rfl) (hb hby at_187) (fun _ _ => ⟨rfl, e132, (by decide : 1 + 0 ≤ _), (by decide : 5 + 0 ≤ _)⟩)
            dsimp only [Pt.U, Pt.locs, Pt.cells, Pt.slots] at X137 l137 y137 z137 st137 hQ137
            subst l137 y137 z137
            obtain ⟨rfl, N137q, e137⟩ := hQ137
            have N137 := Fr.app N132 N137q
            refine own_go (U' := T137.setTop (mkF m 190 #[.val (.int p0), .val (.int p1), .val (.int p2), .val (.int p3), .val (.int p4), .val (.int p5), .val (.int y7), .val (.ref b78), .val (.int (3 : Int32))] [(.int (f_2 b78 k78 y7 f_))])) (fun _ k => st137 _ k) ?_
            refine own_go (U' := T137.setTop (mkF m 192 #[.val (.int p0), .val (.int p1), .val (.int p2), .val (.int p3), .val (.int p4), .val (.int p5), .val (.int y7), .val (.ref b78), .val (.int (3 : Int32))] [(.int (3 : Int32)), (.int (f_2 b78 k78 y7 f_))])) (fun _ k => XS.iload X137.here hx rfl (hb hby at_190) rfl k) ?_
            have hc192_138 : (f_2 b78 k78 y7 f_) = (3 : Int32) := (own_main hr0 hr6).trans (by simp [hc92_80, hc101_118, hc140_121, hc149_133])
            refine own_go (U' := T137.setTop (mkF m 195 #[.val (.int p0), .val (.int p1), .val (.int p2), .val (.int p3), .val (.int p4), .val (.int p5), .val (.int y7), .val (.ref b78), .val (.int (3 : Int32))] [])) (fun _ k => XS.icmpNo X137.here hx rfl (hb hby at_192) rfl (teq hc192_138).2 k) ?_
            refine own_go (U' := T137.setTop (mkF m 196 #[.val (.int p0), .val (.int p1), .val (.int p2), .val (.int p3), .val (.int p4), .val (.int p5), .val (.int y7), .val (.ref b78), .val (.int (3 : Int32))] [(.int (1 : Int32))])) (fun _ k => XS.iconst X137.here hx rfl (hb hby at_195) k) ?_
            refine own_go (U' := T137.setTop (mkF m 200 #[.val (.int p0), .val (.int p1), .val (.int p2), .val (.int p3), .val (.int p4), .val (.int p5), .val (.int y7), .val (.ref b78), .val (.int (3 : Int32))] [(.int (1 : Int32))])) (fun _ k => XS.goto X137.here hx rfl (pc0 := 196) (pc' := 200) rfl (hb hby at_196) (by decide) (by decide) k) ?_
            refine own_ret X137 (v := (some (.int (1 : Int32)))) hlk (fun h => by rw [Bd.returns] at h; cases h) (by decide) (by decide) (fun fs hr => retN X137 hx (t := .boolean) Bd.returns (by simp) (hb hby at_200) hr) ?_
            show (Q0 Z p0 p1 p2 p3 p4 p5 h0 n0) _ T137.heap _
            rw [e137]
            exact ⟨rfl, N137⟩
      · refine own_go (U' := T117.setTop (mkF m 104 #[.val (.int p0), .val (.int p1), .val (.int p2), .val (.int p3), .val (.int p4), .val (.int p5), .val (.int y7), .val (.ref b78), .unset] [])) (fun _ k => XS.ifNo X117.here hx rfl (hb hby at_101) rfl ((if0 _ _).trans (feq hc101_118).1) k) ?_
        refine own_go (U' := T117.setTop (mkF m 105 #[.val (.int p0), .val (.int p1), .val (.int p2), .val (.int p3), .val (.int p4), .val (.int p5), .val (.int y7), .val (.ref b78), .unset] [(.int (1 : Int32))])) (fun _ k => XS.iconst X117.here hx rfl (hb hby at_104) k) ?_
        refine own_go (U' := T117.setTop (mkF m 107 #[.val (.int p0), .val (.int p1), .val (.int p2), .val (.int p3), .val (.int p4), .val (.int p5), .val (.int y7), .val (.ref b78), .val (.int (1 : Int32))] [])) (fun _ k => XS.istore X117.here hx rfl (hb hby at_105) rfl (l' := #[.val (.int p0), .val (.int p1), .val (.int p2), .val (.int p3), .val (.int p4), .val (.int p5), .val (.int y7), .val (.ref b78), .val (.int (1 : Int32))]) rfl k) ?_
        refine own_go (U' := T117.setTop (mkF m 185 #[.val (.int p0), .val (.int p1), .val (.int p2), .val (.int p3), .val (.int p4), .val (.int p5), .val (.int y7), .val (.ref b78), .val (.int (1 : Int32))] [])) (fun _ k => XS.goto X117.here hx rfl (pc0 := 107) (pc' := 185) rfl (hb hby at_107) (by decide) (by decide) k) ?_
        refine own_go (U' := T117.setTop (mkF m 187 #[.val (.int p0), .val (.int p1), .val (.int p2), .val (.int p3), .val (.int p4), .val (.int p5), .val (.int y7), .val (.ref b78), .val (.int (1 : Int32))] [(.ref b78)])) (fun _ k => XS.aload X117.here hx rfl (hb hby at_185) rfl rfl k) ?_
        obtain ⟨_, _, ⟨T139, L139, k139, n139⟩, -, X139, ⟨Lc139, hQ139, l139, y139, z139⟩, st139⟩ := Jvm.LawKit.callS X117 hx (y := (⟨"com/example/hashtory/hashtory/TextFields", "endOfLines", "([B)I"⟩ : MethodName)) hown (mvT hZ (hw _ (List.mem_of_getElem? (i := 6) rfl))) (mvT hZ (hw _ (List.mem_of_getElem? (i := 7) rfl))) (mvT hZ (hw _ (List.mem_of_getElem? (i := 8) rfl))) (mvT hZ (hw _ (List.mem_of_getElem? (i := 9) rfl))) (by decide) (backOf (W := 0) (rm2 l Z aw hw [] b78 k78 y7 f_ h_ n0 Z_ V_ (by first | assumption | decide)) hZ (hw _ (List.mem_of_getElem? (i := 9) rfl)) (hw _ (List.mem_of_getElem? (i := 8) rfl)) (by decide) (by decide)) (g := (mkF m 187 #[.val (.int p0), .val (.int p1), .val (.int p2), .val (.int p3), .val (.int p4), .val (.int p5), .val (.int y7), .val (.ref b78), .val (.int (1 : Int32))] [(.ref b78)])) rfl (by rw [hml]; rfl) (argsL := [(.ref b78)]) (rest := []) (lenOf own_pd1 rfl) rfl (by show 2 * 0 + _ ≤ _; exact Nat.le_of_eq rfl) (hb hby at_187) (fun _ _ => ⟨rfl, e117, (by decide : 1 + 0 ≤ _), (by decide : 5 + 0 ≤ _)⟩)
        dsimp only [Pt.U, Pt.locs, Pt.cells, Pt.slots] at X139 l139 y139 z139 st139 hQ139
        subst l139 y139 z139
        obtain ⟨rfl, N139q, e139⟩ := hQ139
        have N139 := Fr.app N117 N139q
        refine own_go (U' := T139.setTop (mkF m 190 #[.val (.int p0), .val (.int p1), .val (.int p2), .val (.int p3), .val (.int p4), .val (.int p5), .val (.int y7), .val (.ref b78), .val (.int (1 : Int32))] [(.int (f_2 b78 k78 y7 f_))])) (fun _ k => st139 _ k) ?_
        refine own_go (U' := T139.setTop (mkF m 192 #[.val (.int p0), .val (.int p1), .val (.int p2), .val (.int p3), .val (.int p4), .val (.int p5), .val (.int y7), .val (.ref b78), .val (.int (1 : Int32))] [(.int (1 : Int32)), (.int (f_2 b78 k78 y7 f_))])) (fun _ k => XS.iload X139.here hx rfl (hb hby at_190) rfl k) ?_
        have hc192_140 : (f_2 b78 k78 y7 f_) = (1 : Int32) := (own_main hr0 hr6).trans (by simp [hc92_80, hc101_118])
        refine own_go (U' := T139.setTop (mkF m 195 #[.val (.int p0), .val (.int p1), .val (.int p2), .val (.int p3), .val (.int p4), .val (.int p5), .val (.int y7), .val (.ref b78), .val (.int (1 : Int32))] [])) (fun _ k => XS.icmpNo X139.here hx rfl (hb hby at_192) rfl (teq hc192_140).2 k) ?_
        refine own_go (U' := T139.setTop (mkF m 196 #[.val (.int p0), .val (.int p1), .val (.int p2), .val (.int p3), .val (.int p4), .val (.int p5), .val (.int y7), .val (.ref b78), .val (.int (1 : Int32))] [(.int (1 : Int32))])) (fun _ k => XS.iconst X139.here hx rfl (hb hby at_195) k) ?_
        refine own_go (U' := T139.setTop (mkF m 200 #[.val (.int p0), .val (.int p1), .val (.int p2), .val (.int p3), .val (.int p4), .val (.int p5), .val (.int y7), .val (.ref b78), .val (.int (1 : Int32))] [(.int (1 : Int32))])) (fun _ k => XS.goto X139.here hx rfl (pc0 := 196) (pc' := 200) rfl (hb hby at_196) (by decide) (by decide) k) ?_
        refine own_ret X139 (v := (some (.int (1 : Int32)))) hlk (fun h => by rw [Bd.returns] at h; cases h) (by decide) (by decide) (fun fs hr => retN X139 hx (t := .boolean) Bd.returns (by simp) (hb hby at_200) hr) ?_
        show (Q0 Z p0 p1 p2 p3 p4 p5 h0 n0) _ T139.heap _
        rw [e139]
        exact ⟨rfl, N139⟩
  refine own_go (U' := T78.setTop (mkF m 17 #[.val (.int p0), .val (.int p1), .val (.int p2), .val (.int p3), .val (.int p4), .val (.int p5), .val (.int y7), .val (.ref b78), .unset] [(.int y7)])) (fun _ k => XS.iload X78.here hx rfl (hb hby at_15) rfl k) ?_
  by_cases hc17_141 : (0 : Int32) < y7
  · refine own_go (U' := T78.setTop (mkF m 20 #[.val (.int p0), .val (.int p1), .val (.int p2), .val (.int p3), .val (.int p4), .val (.int p5), .val (.int y7), .val (.ref b78), .unset] [])) (fun _ k => XS.ifNo X78.here hx rfl (hb hby at_17) rfl ((if0 _ _).trans (tlt hc17_141).2.2.2) k) ?_
    refine own_go (U' := T78.setTop (mkF m 22 #[.val (.int p0), .val (.int p1), .val (.int p2), .val (.int p3), .val (.int p4), .val (.int p5), .val (.int y7), .val (.ref b78), .unset] [(.ref b78)])) (fun _ k => XS.aload X78.here hx rfl (hb hby at_20) rfl rfl k) ?_
    refine own_go (U' := T78.setTop (mkF m 23 #[.val (.int p0), .val (.int p1), .val (.int p2), .val (.int p3), .val (.int p4), .val (.int p5), .val (.int y7), .val (.ref b78), .unset] [(.int (0 : Int32)), (.ref b78)])) (fun _ k => XS.iconst X78.here hx rfl (hb hby at_22) k) ?_
    refine own_go (U' := T78.setTop (mkF m 24 #[.val (.int p0), .val (.int p1), .val (.int p2), .val (.int p3), .val (.int p4), .val (.int p5), .val (.int y7), .val (.ref b78), .unset] [(.int p1), (.int (0 : Int32)), (.ref b78)])) (fun _ k => XS.iloadN X78.here hx rfl (hb hby at_23) rfl k) ?_
    obtain ⟨_, _, ⟨T142, L142, k142, n142⟩, -, X142, ⟨Lc142, hQ142, l142, y142, z142⟩, st142⟩ := Jvm.LawKit.callS X78 hx (y := (⟨"com/example/hashtory/hashtory/TextFieldsEndOfLinesPinLaw", "draw", "(I)B"⟩ : MethodName)) hown (mvT hZ (hw _ (List.mem_of_getElem? (i := 10) rfl))) (mvT hZ (hw _ (List.mem_of_getElem? (i := 11) rfl))) (mvT hZ (hw _ (List.mem_of_getElem? (i := 4) rfl))) (mvT hZ (hw _ (List.mem_of_getElem? (i := 12) rfl))) (by decide) (backOf (W := 2) (rm3 l Z aw hw [] p1 h78 n0 Z78 ) hZ (hw _ (List.mem_of_getElem? (i := 12) rfl)) (hw _ (List.mem_of_getElem? (i := 4) rfl)) (by decide) (by decide)) (g := (mkF m 24 #[.val (.int p0), .val (.int p1), .val (.int p2), .val (.int p3), .val (.int p4), .val (.int p5), .val (.int y7), .val (.ref b78), .unset] [(.int p1), (.int (0 : Int32)), (.ref b78)])) rfl (by rw [hml]; rfl) (argsL := [(.int p1)]) (rest := [(.int (0 : Int32)), (.ref b78)]) (lenOf own_pd2 rfl) rfl (by show 2 * 0 + _ ≤ _; exact Nat.le_of_eq rfl) (hb hby at_24) (fun _ _ => ⟨rfl, e78, (by decide : 1 + 0 ≤ _), (by decide : 5 + 0 ≤ _)⟩)
    dsimp only [Pt.U, Pt.locs, Pt.cells, Pt.slots] at X142 l142 y142 z142 st142 hQ142
    subst l142 y142 z142
    obtain ⟨rfl, N142q, e142⟩ := hQ142
    have N142 := Fr.app N0 N142q
    refine own_go (U' := T142.setTop (mkF m 27 #[.val (.int p0), .val (.int p1), .val (.int p2), .val (.int p3), .val (.int p4), .val (.int p5), .val (.int y7), .val (.ref b78), .unset] [(.int (f_3 p1)), (.int (0 : Int32)), (.ref b78)])) (fun _ k => st142 _ k) ?_
    have V143 := V_b78
    obtain ⟨cl143, Ar143, q143, S143, Ng143, Hh143⟩ := V143
    have hj143 : ¬ (0 : Int32) < 0 ∧ (0 : Int32) < y7 := ⟨by decide, hc17_141⟩
    obtain ⟨T144, h144, X144, e144, W144, st144⟩ := stB X142 hx hZ e142 Ar143 (j := (0 : Int32)) (inb_of S143 hj143) (g := (mkF m 27 #[.val (.int p0), .val (.int p1), .val (.int p2), .val (.int p3), .val (.int p4), .val (.int p5), .val (.int y7), .val (.ref b78), .unset] [(.int (f_3 p1)), (.int (0 : Int32)), (.ref b78)])) rfl rfl (hb hby at_27)
    obtain ⟨f27, hf27⟩ : ∃ F_ : Int32 → Int32, F_ = (fun i : Int32 => if i = (0 : Int32) then (f_3 p1).toInt8.toInt32 else (fun _ => (0 : Int32)) i) := ⟨_, rfl⟩
    have w144 : own_Arf Z h144 b78 k78 .byte y7 f27 := by rw [hf27]; exact own_Arf.set Ar143 q143 S143 Ng143 Hh143 hj143 W144
    have Z144 : n0 ≤ h144.size := Nat.le_trans Z78 (Keep.of_wr W144).1
    have K144 := Keep.wr K78 W144 (Or.inr sz_b78)
    have N144 := Fr.snoc X144 N142 g_b78
    refine own_go (U' := T144.setTop (mkF m 28 #[.val (.int p0), .val (.int p1), .val (.int p2), .val (.int p3), .val (.int p4), .val (.int p5), .val (.int y7), .val (.ref b78), .unset] [])) (fun _ k => st144 _ k) ?_
    refine own_go (U' := T144.setTop (mkF m 30 #[.val (.int p0), .val (.int p1), .val (.int p2), .val (.int p3), .val (.int p4), .val (.int p5), .val (.int y7), .val (.ref b78), .unset] [(.int y7)])) (fun _ k => XS.iload X144.here hx rfl (hb hby at_28) rfl k) ?_
    refine own_go (U' := T144.setTop (mkF m 31 #[.val (.int p0), .val (.int p1), .val (.int p2), .val (.int p3), .val (.int p4), .val (.int p5), .val (.int y7), .val (.ref b78), .unset] [(.int (1 : Int32)), (.int y7)])) (fun _ k => XS.iconst X144.here hx rfl (hb hby at_30) k) ?_
    by_cases hc31_145 : (1 : Int32) < y7
    · refine own_go (U' := T144.setTop (mkF m 34 #[.val (.int p0), .val (.int p1), .val (.int p2), .val (.int p3), .val (.int p4), .val (.int p5), .val (.int y7), .val (.ref b78), .unset] [])) (fun _ k => XS.icmpNo X144.here hx rfl (hb hby at_31) rfl (tlt hc31_145).2.2.2 k) ?_
      refine own_go (U' := T144.setTop (mkF m 36 #[.val (.int p0), .val (.int p1), .val (.int p2), .val (.int p3), .val (.int p4), .val (.int p5), .val (.int y7), .val (.ref b78), .unset] [(.ref b78)])) (fun _ k => XS.aload X144.here hx rfl (hb hby at_34) rfl rfl k) ?_
      refine own_go (U' := T144.setTop (mkF m 37 #[.val (.int p0), .val (.int p1), .val (.int p2), .val (.int p3), .val (.int p4), .val (.int p5), .val (.int y7), .val (.ref b78), .unset] [(.int (1 : Int32)), (.ref b78)])) (fun _ k => XS.iconst X144.here hx rfl (hb hby at_36) k) ?_
      refine own_go (U' := T144.setTop (mkF m 38 #[.val (.int p0), .val (.int p1), .val (.int p2), .val (.int p3), .val (.int p4), .val (.int p5), .val (.int y7), .val (.ref b78), .unset] [(.int p2), (.int (1 : Int32)), (.ref b78)])) (fun _ k => XS.iloadN X144.here hx rfl (hb hby at_37) rfl k) ?_
      obtain ⟨_, _, ⟨T146, L146, k146, n146⟩, -, X146, ⟨Lc146, hQ146, l146, y146, z146⟩, st146⟩ := Jvm.LawKit.callS X144 hx (y := (⟨"com/example/hashtory/hashtory/TextFieldsEndOfLinesPinLaw", "draw", "(I)B"⟩ : MethodName)) hown (mvT hZ (hw _ (List.mem_of_getElem? (i := 10) rfl))) (mvT hZ (hw _ (List.mem_of_getElem? (i := 11) rfl))) (mvT hZ (hw _ (List.mem_of_getElem? (i := 4) rfl))) (mvT hZ (hw _ (List.mem_of_getElem? (i := 12) rfl))) (by decide) (backOf (W := 2) (rm3 l Z aw hw [] p2 h144 n0 Z144 ) hZ (hw _ (List.mem_of_getElem? (i := 12) rfl)) (hw _ (List.mem_of_getElem? (i := 4) rfl)) (by decide) (by decide)) (g := (mkF m 38 #[.val (.int p0), .val (.int p1), .val (.int p2), .val (.int p3), .val (.int p4), .val (.int p5), .val (.int y7), .val (.ref b78), .unset] [(.int p2), (.int (1 : Int32)), (.ref b78)])) rfl (by rw [hml]; rfl) (argsL := [(.int p2)]) (rest := [(.int (1 : Int32)), (.ref b78)]) (lenOf own_pd2 rfl) rfl (by show 2 * 0 + _ ≤ _; exact Nat.le_of_eq rfl) (hb hby at_38) (fun _ _ => ⟨rfl, e144, (by decide : 1 + 0 ≤ _), (by decide : 5 + 0 ≤ _)⟩)
      dsimp only [Pt.U, Pt.locs, Pt.cells, Pt.slots] at X146 l146 y146 z146 st146 hQ146
      subst l146 y146 z146
      obtain ⟨rfl, N146q, e146⟩ := hQ146
      have N146 := Fr.app N144 N146q
      refine own_go (U' := T146.setTop (mkF m 41 #[.val (.int p0), .val (.int p1), .val (.int p2), .val (.int p3), .val (.int p4), .val (.int p5), .val (.int y7), .val (.ref b78), .unset] [(.int (f_3 p2)), (.int (1 : Int32)), (.ref b78)])) (fun _ k => st146 _ k) ?_
      have V147 := w144
      obtain ⟨cl147, Ar147, q147, S147, Ng147, Hh147⟩ := V147
      have hj147 : ¬ (1 : Int32) < 0 ∧ (1 : Int32) < y7 := ⟨by decide, hc31_145⟩
      obtain ⟨T148, h148, X148, e148, W148, st148⟩ := stB X146 hx hZ e146 Ar147 (j := (1 : Int32)) (inb_of S147 hj147) (g := (mkF m 41 #[.val (.int p0), .val (.int p1), .val (.int p2), .val (.int p3), .val (.int p4), .val (.int p5), .val (.int y7), .val (.ref b78), .unset] [(.int (f_3 p2)), (.int (1 : Int32)), (.ref b78)])) rfl rfl (hb hby at_41)
      obtain ⟨f41, hf41⟩ : ∃ F_ : Int32 → Int32, F_ = (fun i : Int32 => if i = (1 : Int32) then (f_3 p2).toInt8.toInt32 else f27 i) := ⟨_, rfl⟩
      have w148 : own_Arf Z h148 b78 k78 .byte y7 f41 := by rw [hf41]; exact own_Arf.set Ar147 q147 S147 Ng147 Hh147 hj147 W148
      have Z148 : n0 ≤ h148.size := Nat.le_trans Z144 (Keep.of_wr W148).1
      have K148 := Keep.wr K144 W148 (Or.inr sz_b78)
      have N148 := Fr.snoc X148 N146 g_b78
      refine own_go (U' := T148.setTop (mkF m 42 #[.val (.int p0), .val (.int p1), .val (.int p2), .val (.int p3), .val (.int p4), .val (.int p5), .val (.int y7), .val (.ref b78), .unset] [])) (fun _ k => st148 _ k) ?_
      refine own_go (U' := T148.setTop (mkF m 44 #[.val (.int p0), .val (.int p1), .val (.int p2), .val (.int p3), .val (.int p4), .val (.int p5), .val (.int y7), .val (.ref b78), .unset] [(.int y7)])) (fun _ k => XS.iload X148.here hx rfl (hb hby at_42) rfl k) ?_
      refine own_go (U' := T148.setTop (mkF m 45 #[.val (.int p0), .val (.int p1), .val (.int p2), .val (.int p3), .val (.int p4), .val (.int p5), .val (.int y7), .val (.ref b78), .unset] [(.int (2 : Int32)), (.int y7)])) (fun _ k => XS.iconst X148.here hx rfl (hb hby at_44) k) ?_
      by_cases hc45_149 : (2 : Int32) < y7
      · refine own_go (U' := T148.setTop (mkF m 48 #[.val (.int p0), .val (.int p1), .val (.int p2), .val (.int p3), .val (.int p4), .val (.int p5), .val (.int y7), .val (.ref b78), .unset] [])) (fun _ k => XS.icmpNo X148.here hx rfl (hb hby at_45) rfl (tlt hc45_149).2.2.2 k) ?_
        refine own_go (U' := T148.setTop (mkF m 50 #[.val (.int p0), .val (.int p1), .val (.int p2), .val (.int p3), .val (.int p4), .val (.int p5), .val (.int y7), .val (.ref b78), .unset] [(.ref b78)])) (fun _ k => XS.aload X148.here hx rfl (hb hby at_48) rfl rfl k) ?_
        refine own_go (U' := T148.setTop (mkF m 51 #[.val (.int p0), .val (.int p1), .val (.int p2), .val (.int p3), .val (.int p4), .val (.int p5), .val (.int y7), .val (.ref b78), .unset] [(.int (2 : Int32)), (.ref b78)])) (fun _ k => XS.iconst X148.here hx rfl (hb hby at_50) k) ?_
        refine own_go (U' := T148.setTop (mkF m 52 #[.val (.int p0), .val (.int p1), .val (.int p2), .val (.int p3), .val (.int p4), .val (.int p5), .val (.int y7), .val (.ref b78), .unset] [(.int p3), (.int (2 : Int32)), (.ref b78)])) (fun _ k => XS.iloadN X148.here hx rfl (hb hby at_51) rfl k) ?_
        obtain ⟨_, _, ⟨T150, L150, k150, n150⟩, -, X150, ⟨Lc150, hQ150, l150, y150, z150⟩, st150⟩ := Jvm.LawKit.callS X148 hx (y := (⟨"com/example/hashtory/hashtory/TextFieldsEndOfLinesPinLaw", "draw", "(I)B"⟩ : MethodName)) hown (mvT hZ (hw _ (List.mem_of_getElem? (i := 10) rfl))) (mvT hZ (hw _ (List.mem_of_getElem? (i := 11) rfl))) (mvT hZ (hw _ (List.mem_of_getElem? (i := 4) rfl))) (mvT hZ (hw _ (List.mem_of_getElem? (i := 12) rfl))) (by decide) (backOf (W := 2) (rm3 l Z aw hw [] p3 h148 n0 Z148 ) hZ (hw _ (List.mem_of_getElem? (i := 12) rfl)) (hw _ (List.mem_of_getElem? (i := 4) rfl)) (by decide) (by decide)) (g := (mkF m 52 #[.val (.int p0), .val (.int p1), .val (.int p2), .val (.int p3), .val (.int p4), .val (.int p5), .val (.int y7), .val (.ref b78), .unset] [(.int p3), (.int (2 : Int32)), (.ref b78)])) rfl (by rw [hml]; rfl) (argsL := [(.int p3)]) (rest := [(.int (2 : Int32)), (.ref b78)]) (lenOf own_pd2 rfl) rfl (by show 2 * 0 + _ ≤ _; exact Nat.le_of_eq rfl) (hb hby at_52) (fun _ _ => ⟨rfl, e148, (by decide : 1 + 0 ≤ _), (by decide : 5 + 0 ≤ _)⟩)
        dsimp only [Pt.U, Pt.locs, Pt.cells, Pt.slots] at X150 l150 y150 z150 st150 hQ150
        subst l150 y150 z150
        obtain ⟨rfl, N150q, e150⟩ := hQ150
        have N150 := Fr.app N148 N150q
        refine own_go (U' := T150.setTop (mkF m 55 #[.val (.int p0), .val (.int p1), .val (.int p2), .val (.int p3), .val (.int p4), .val (.int p5), .val (.int y7), .val (.ref b78), .unset] [(.int (f_3 p3)), (.int (2 : Int32)), (.ref b78)])) (fun _ k => st150 _ k) ?_
        have V151 := w148
        obtain ⟨cl151, Ar151, q151, S151, Ng151, Hh151⟩ := V151
        have hj151 : ¬ (2 : Int32) < 0 ∧ (2 : Int32) < y7 := ⟨by decide, hc45_149⟩
        obtain ⟨T152, h152, X152, e152, W152, st152⟩ := stB X150 hx hZ e150 Ar151 (j := (2 : Int32)) (inb_of S151 hj151) (g := (mkF m 55 #[.val (.int p0), .val (.int p1), .val (.int p2), .val (.int p3), .val (.int p4), .val (.int p5), .val (.int y7), .val (.ref b78), .unset] [(.int (f_3 p3)), (.int (2 : Int32)), (.ref b78)])) rfl rfl (hb hby at_55)
        obtain ⟨f55, hf55⟩ : ∃ F_ : Int32 → Int32, F_ = (fun i : Int32 => if i = (2 : Int32) then (f_3 p3).toInt8.toInt32 else f41 i) := ⟨_, rfl⟩
        have w152 : own_Arf Z h152 b78 k78 .byte y7 f55 := by rw [hf55]; exact own_Arf.set Ar151 q151 S151 Ng151 Hh151 hj151 W152
        have Z152 : n0 ≤ h152.size := Nat.le_trans Z148 (Keep.of_wr W152).1
        have K152 := Keep.wr K148 W152 (Or.inr sz_b78)
        have N152 := Fr.snoc X152 N150 g_b78
        refine own_go (U' := T152.setTop (mkF m 56 #[.val (.int p0), .val (.int p1), .val (.int p2), .val (.int p3), .val (.int p4), .val (.int p5), .val (.int y7), .val (.ref b78), .unset] [])) (fun _ k => st152 _ k) ?_
        refine own_go (U' := T152.setTop (mkF m 58 #[.val (.int p0), .val (.int p1), .val (.int p2), .val (.int p3), .val (.int p4), .val (.int p5), .val (.int y7), .val (.ref b78), .unset] [(.int y7)])) (fun _ k => XS.iload X152.here hx rfl (hb hby at_56) rfl k) ?_
        refine own_go (U' := T152.setTop (mkF m 59 #[.val (.int p0), .val (.int p1), .val (.int p2), .val (.int p3), .val (.int p4), .val (.int p5), .val (.int y7), .val (.ref b78), .unset] [(.int (3 : Int32)), (.int y7)])) (fun _ k => XS.iconst X152.here hx rfl (hb hby at_58) k) ?_
        by_cases hc59_153 : (3 : Int32) < y7
        · refine own_go (U' := T152.setTop (mkF m 62 #[.val (.int p0), .val (.int p1), .val (.int p2), .val (.int p3), .val (.int p4), .val (.int p5), .val (.int y7), .val (.ref b78), .unset] [])) (fun _ k => XS.icmpNo X152.here hx rfl (hb hby at_59) rfl (tlt hc59_153).2.2.2 k) ?_
          refine own_go (U' := T152.setTop (mkF m 64 #[.val (.int p0), .val (.int p1), .val (.int p2), .val (.int p3), .val (.int p4), .val (.int p5), .val (.int y7), .val (.ref b78), .unset] [(.ref b78)])) (fun _ k => XS.aload X152.here hx rfl (hb hby at_62) rfl rfl k) ?_
          refine own_go (U' := T152.setTop (mkF m 65 #[.val (.int p0), .val (.int p1), .val (.int p2), .val (.int p3), .val (.int p4), .val (.int p5), .val (.int y7), .val (.ref b78), .unset] [(.int (3 : Int32)), (.ref b78)])) (fun _ k => XS.iconst X152.here hx rfl (hb hby at_64) k) ?_
          refine own_go (U' := T152.setTop (mkF m 67 #[.val (.int p0), .val (.int p1), .val (.int p2), .val (.int p3), .val (.int p4), .val (.int p5), .val (.int y7), .val (.ref b78), .unset] [(.int p4), (.int (3 : Int32)), (.ref b78)])) (fun _ k => XS.iload X152.here hx rfl (hb hby at_65) rfl k) ?_
          obtain ⟨_, _, ⟨T154, L154, k154, n154⟩, -, X154, ⟨Lc154, hQ154, l154, y154, z154⟩, st154⟩ := Jvm.LawKit.callS X152 hx (y := (⟨"com/example/hashtory/hashtory/TextFieldsEndOfLinesPinLaw", "draw", "(I)B"⟩ : MethodName)) hown (mvT hZ (hw _ (List.mem_of_getElem? (i := 10) rfl))) (mvT hZ (hw _ (List.mem_of_getElem? (i := 11) rfl))) (mvT hZ (hw _ (List.mem_of_getElem? (i := 4) rfl))) (mvT hZ (hw _ (List.mem_of_getElem? (i := 12) rfl))) (by decide) (backOf (W := 2) (rm3 l Z aw hw [] p4 h152 n0 Z152 ) hZ (hw _ (List.mem_of_getElem? (i := 12) rfl)) (hw _ (List.mem_of_getElem? (i := 4) rfl)) (by decide) (by decide)) (g := (mkF m 67 #[.val (.int p0), .val (.int p1), .val (.int p2), .val (.int p3), .val (.int p4), .val (.int p5), .val (.int y7), .val (.ref b78), .unset] [(.int p4), (.int (3 : Int32)), (.ref b78)])) rfl (by rw [hml]; rfl) (argsL := [(.int p4)]) (rest := [(.int (3 : Int32)), (.ref b78)]) (lenOf own_pd2 rfl) rfl (by show 2 * 0 + _ ≤ _; exact Nat.le_of_eq rfl) (hb hby at_67) (fun _ _ => ⟨rfl, e152, (by decide : 1 + 0 ≤ _), (by decide : 5 + 0 ≤ _)⟩)
          dsimp only [Pt.U, Pt.locs, Pt.cells, Pt.slots] at X154 l154 y154 z154 st154 hQ154
          subst l154 y154 z154
          obtain ⟨rfl, N154q, e154⟩ := hQ154
          have N154 := Fr.app N152 N154q
          refine own_go (U' := T154.setTop (mkF m 70 #[.val (.int p0), .val (.int p1), .val (.int p2), .val (.int p3), .val (.int p4), .val (.int p5), .val (.int y7), .val (.ref b78), .unset] [(.int (f_3 p4)), (.int (3 : Int32)), (.ref b78)])) (fun _ k => st154 _ k) ?_
          have V155 := w152
          obtain ⟨cl155, Ar155, q155, S155, Ng155, Hh155⟩ := V155
          have hj155 : ¬ (3 : Int32) < 0 ∧ (3 : Int32) < y7 := ⟨by decide, hc59_153⟩
          obtain ⟨T156, h156, X156, e156, W156, st156⟩ := stB X154 hx hZ e154 Ar155 (j := (3 : Int32)) (inb_of S155 hj155) (g := (mkF m 70 #[.val (.int p0), .val (.int p1), .val (.int p2), .val (.int p3), .val (.int p4), .val (.int p5), .val (.int y7), .val (.ref b78), .unset] [(.int (f_3 p4)), (.int (3 : Int32)), (.ref b78)])) rfl rfl (hb hby at_70)
          obtain ⟨f70, hf70⟩ : ∃ F_ : Int32 → Int32, F_ = (fun i : Int32 => if i = (3 : Int32) then (f_3 p4).toInt8.toInt32 else f55 i) := ⟨_, rfl⟩
          have w156 : own_Arf Z h156 b78 k78 .byte y7 f70 := by rw [hf70]; exact own_Arf.set Ar155 q155 S155 Ng155 Hh155 hj155 W156
          have Z156 : n0 ≤ h156.size := Nat.le_trans Z152 (Keep.of_wr W156).1
          have K156 := Keep.wr K152 W156 (Or.inr sz_b78)
          have N156 := Fr.snoc X156 N154 g_b78
          refine own_go (U' := T156.setTop (mkF m 71 #[.val (.int p0), .val (.int p1), .val (.int p2), .val (.int p3), .val (.int p4), .val (.int p5), .val (.int y7), .val (.ref b78), .unset] [])) (fun _ k => st156 _ k) ?_
          refine own_go (U' := T156.setTop (mkF m 73 #[.val (.int p0), .val (.int p1), .val (.int p2), .val (.int p3), .val (.int p4), .val (.int p5), .val (.int y7), .val (.ref b78), .unset] [(.int y7)])) (fun _ k => XS.iload X156.here hx rfl (hb hby at_71) rfl k) ?_
          refine own_go (U' := T156.setTop (mkF m 74 #[.val (.int p0), .val (.int p1), .val (.int p2), .val (.int p3), .val (.int p4), .val (.int p5), .val (.int y7), .val (.ref b78), .unset] [(.int (4 : Int32)), (.int y7)])) (fun _ k => XS.iconst X156.here hx rfl (hb hby at_73) k) ?_
          by_cases hc74_157 : (4 : Int32) < y7
          · refine own_go (U' := T156.setTop (mkF m 77 #[.val (.int p0), .val (.int p1), .val (.int p2), .val (.int p3), .val (.int p4), .val (.int p5), .val (.int y7), .val (.ref b78), .unset] [])) (fun _ k => XS.icmpNo X156.here hx rfl (hb hby at_74) rfl (tlt hc74_157).2.2.2 k) ?_
            refine own_go (U' := T156.setTop (mkF m 79 #[.val (.int p0), .val (.int p1), .val (.int p2), .val (.int p3), .val (.int p4), .val (.int p5), .val (.int y7), .val (.ref b78), .unset] [(.ref b78)])) (fun _ k => XS.aload X156.here hx rfl (hb hby at_77) rfl rfl k) ?_
            refine own_go (U' := T156.setTop (mkF m 80 #[.val (.int p0), .val (.int p1), .val (.int p2), .val (.int p3), .val (.int p4), .val (.int p5), .val (.int y7), .val (.ref b78), .unset] [(.int (4 : Int32)), (.ref b78)])) (fun _ k => XS.iconst X156.here hx rfl (hb hby at_79) k) ?_
            refine own_go (U' := T156.setTop (mkF m 82 #[.val (.int p0), .val (.int p1), .val (.int p2), .val (.int p3), .val (.int p4), .val (.int p5), .val (.int y7), .val (.ref b78), .unset] [(.int p5), (.int (4 : Int32)), (.ref b78)])) (fun _ k => XS.iload X156.here hx rfl (hb hby at_80) rfl k) ?_
            obtain ⟨_, _, ⟨T158, L158, k158, n158⟩, -, X158, ⟨Lc158, hQ158, l158, y158, z158⟩, st158⟩ := Jvm.LawKit.callS X156 hx (y := (⟨"com/example/hashtory/hashtory/TextFieldsEndOfLinesPinLaw", "draw", "(I)B"⟩ : MethodName)) hown (mvT hZ (hw _ (List.mem_of_getElem? (i := 10) rfl))) (mvT hZ (hw _ (List.mem_of_getElem? (i := 11) rfl))) (mvT hZ (hw _ (List.mem_of_getElem? (i := 4) rfl))) (mvT hZ (hw _ (List.mem_of_getElem? (i := 12) rfl))) (by decide) (backOf (W := 2) (rm3 l Z aw hw [] p5 h156 n0 Z156 ) hZ (hw _ (List.mem_of_getElem? (i := 12) rfl)) (hw _ (List.mem_of_getElem? (i := 4) rfl)) (by decide) (by decide)) (g := (mkF m 82 #[.val (.int p0), .val (.int p1), .val (.int p2), .val (.int p3), .val (.int p4), .val (.int p5), .val (.int y7), .val (.ref b78), .unset] [(.int p5), (.int (4 : Int32)), (.ref b78)])) rfl (by rw [hml]; rfl) (argsL := [(.int p5)]) (rest := [(.int (4 : Int32)), (.ref b78)]) (lenOf own_pd2 rfl) rfl (by show 2 * 0 + _ ≤ _; exact Nat.le_of_eq rfl) (hb hby at_82) (fun _ _ => ⟨rfl, e156, (by decide : 1 + 0 ≤ _), (by decide : 5 + 0 ≤ _)⟩)
            dsimp only [Pt.U, Pt.locs, Pt.cells, Pt.slots] at X158 l158 y158 z158 st158 hQ158
            subst l158 y158 z158
            obtain ⟨rfl, N158q, e158⟩ := hQ158
            have N158 := Fr.app N156 N158q
            refine own_go (U' := T158.setTop (mkF m 85 #[.val (.int p0), .val (.int p1), .val (.int p2), .val (.int p3), .val (.int p4), .val (.int p5), .val (.int y7), .val (.ref b78), .unset] [(.int (f_3 p5)), (.int (4 : Int32)), (.ref b78)])) (fun _ k => st158 _ k) ?_
            have V159 := w156
            obtain ⟨cl159, Ar159, q159, S159, Ng159, Hh159⟩ := V159
            have hj159 : ¬ (4 : Int32) < 0 ∧ (4 : Int32) < y7 := ⟨by decide, hc74_157⟩
            obtain ⟨T160, h160, X160, e160, W160, st160⟩ := stB X158 hx hZ e158 Ar159 (j := (4 : Int32)) (inb_of S159 hj159) (g := (mkF m 85 #[.val (.int p0), .val (.int p1), .val (.int p2), .val (.int p3), .val (.int p4), .val (.int p5), .val (.int y7), .val (.ref b78), .unset] [(.int (f_3 p5)), (.int (4 : Int32)), (.ref b78)])) rfl rfl (hb hby at_85)
            obtain ⟨f85, hf85⟩ : ∃ F_ : Int32 → Int32, F_ = (fun i : Int32 => if i = (4 : Int32) then (f_3 p5).toInt8.toInt32 else f70 i) := ⟨_, rfl⟩
            have w160 : own_Arf Z h160 b78 k78 .byte y7 f85 := by rw [hf85]; exact own_Arf.set Ar159 q159 S159 Ng159 Hh159 hj159 W160
            have Z160 : n0 ≤ h160.size := Nat.le_trans Z156 (Keep.of_wr W160).1
            have K160 := Keep.wr K156 W160 (Or.inr sz_b78)
            have N160 := Fr.snoc X160 N158 g_b78
            refine own_go (U' := T160.setTop (mkF m 86 #[.val (.int p0), .val (.int p1), .val (.int p2), .val (.int p3), .val (.int p4), .val (.int p5), .val (.int y7), .val (.ref b78), .unset] [])) (fun _ k => st160 _ k) ?_
            exact tail _ _ X160 _ e160 N160 Z160 _ w160
          · refine own_go (U' := T156.setTop (mkF m 86 #[.val (.int p0), .val (.int p1), .val (.int p2), .val (.int p3), .val (.int p4), .val (.int p5), .val (.int y7), .val (.ref b78), .unset] [])) (fun _ k => XS.icmpYes X156.here hx rfl (pc0 := 74) (pc' := 86) rfl (hb hby at_74) rfl (flt hc74_157).2.2.2 (by decide) (by decide) k) ?_
            exact tail _ _ X156 _ e156 N156 Z156 _ w156
        · refine own_go (U' := T152.setTop (mkF m 71 #[.val (.int p0), .val (.int p1), .val (.int p2), .val (.int p3), .val (.int p4), .val (.int p5), .val (.int y7), .val (.ref b78), .unset] [])) (fun _ k => XS.icmpYes X152.here hx rfl (pc0 := 59) (pc' := 71) rfl (hb hby at_59) rfl (flt hc59_153).2.2.2 (by decide) (by decide) k) ?_
          refine own_go (U' := T152.setTop (mkF m 73 #[.val (.int p0), .val (.int p1), .val (.int p2), .val (.int p3), .val (.int p4), .val (.int p5), .val (.int y7), .val (.ref b78), .unset] [(.int y7)])) (fun _ k => XS.iload X152.here hx rfl (hb hby at_71) rfl k) ?_
          refine own_go (U' := T152.setTop (mkF m 74 #[.val (.int p0), .val (.int p1), .val (.int p2), .val (.int p3), .val (.int p4), .val (.int p5), .val (.int y7), .val (.ref b78), .unset] [(.int (4 : Int32)), (.int y7)])) (fun _ k => XS.iconst X152.here hx rfl (hb hby at_73) k) ?_
          have hc74_161 : ¬ ((4 : Int32) < y7) := own_nlt hc59_153 (by decide)
          refine own_go (U' := T152.setTop (mkF m 86 #[.val (.int p0), .val (.int p1), .val (.int p2), .val (.int p3), .val (.int p4), .val (.int p5), .val (.int y7), .val (.ref b78), .unset] [])) (fun _ k => XS.icmpYes X152.here hx rfl (pc0 := 74) (pc' := 86) rfl (hb hby at_74) rfl (flt hc74_161).2.2.2 (by decide) (by decide) k) ?_
          exact tail _ _ X152 _ e152 N152 Z152 _ w152
      · refine own_go (U' := T148.setTop (mkF m 56 #[.val (.int p0), .val (.int p1), .val (.int p2), .val (.int p3), .val (.int p4), .val (.int p5), .val (.int y7), .val (.ref b78), .unset] [])) (fun _ k => XS.icmpYes X148.here hx rfl (pc0 := 45) (pc' := 56) rfl (hb hby at_45) rfl (flt hc45_149).2.2.2 (by decide) (by decide) k) ?_
        refine own_go (U' := T148.setTop (mkF m 58 #[.val (.int p0), .val (.int p1), .val (.int p2), .val (.int p3), .val (.int p4), .val (.int p5), .val (.int y7), .val (.ref b78), .unset] [(.int y7)])) (fun _ k => XS.iload X148.here hx rfl (hb hby at_56) rfl k) ?_
        refine own_go (U' := T148.setTop (mkF m 59 #[.val (.int p0), .val (.int p1), .val (.int p2), .val (.int p3), .val (.int p4), .val (.int p5), .val (.int y7), .val (.ref b78), .unset] [(.int (3 : Int32)), (.int y7)])) (fun _ k => XS.iconst X148.here hx rfl (hb hby at_58) k) ?_
        have hc59_162 : ¬ ((3 : Int32) < y7) := own_nlt hc45_149 (by decide)
        refine own_go (U' := T148.setTop (mkF m 71 #[.val (.int p0), .val (.int p1), .val (.int p2), .val (.int p3), .val (.int p4), .val (.int p5), .val (.int y7), .val (.ref b78), .unset] [])) (fun _ k => XS.icmpYes X148.here hx rfl (pc0 := 59) (pc' := 71) rfl (hb hby at_59) rfl (flt hc59_162).2.2.2 (by decide) (by decide) k) ?_
        refine own_go (U' := T148.setTop (mkF m 73 #[.val (.int p0), .val (.int p1), .val (.int p2), .val (.int p3), .val (.int p4), .val (.int p5), .val (.int y7), .val (.ref b78), .unset] [(.int y7)])) (fun _ k => XS.iload X148.here hx rfl (hb hby at_71) rfl k) ?_
        refine own_go (U' := T148.setTop (mkF m 74 #[.val (.int p0), .val (.int p1), .val (.int p2), .val (.int p3), .val (.int p4), .val (.int p5), .val (.int y7), .val (.ref b78), .unset] [(.int (4 : Int32)), (.int y7)])) (fun _ k => XS.iconst X148.here hx rfl (hb hby at_73) k) ?_
        have hc74_163 : ¬ ((4 : Int32) < y7) := own_nlt hc45_149 (by decide)
        refine own_go (U' := T148.setTop (mkF m 86 #[.val (.int p0), .val (.int p1), .val (.int p2), .val (.int p3), .val (.int p4), .val (.int p5), .val (.int y7), .val (.ref b78), .unset] [])) (fun _ k => XS.icmpYes X148.here hx rfl (pc0 := 74) (pc' := 86) rfl (hb hby at_74) rfl (flt hc74_163).2.2.2 (by decide) (by decide) k) ?_
        exact tail _ _ X148 _ e148 N148 Z148 _ w148
    · refine own_go (U' := T144.setTop (mkF m 42 #[.val (.int p0), .val (.int p1), .val (.int p2), .val (.int p3), .val (.int p4), .val (.int p5), .val (.int y7), .val (.ref b78), .unset] [])) (fun _ k => XS.icmpYes X144.here hx rfl (pc0 := 31) (pc' := 42) rfl (hb hby at_31) rfl (flt hc31_145).2.2.2 (by decide) (by decide) k) ?_
      refine own_go (U' := T144.setTop (mkF m 44 #[.val (.int p0), .val (.int p1), .val (.int p2), .val (.int p3), .val (.int p4), .val (.int p5), .val (.int y7), .val (.ref b78), .unset] [(.int y7)])) (fun _ k => XS.iload X144.here hx rfl (hb hby at_42) rfl k) ?_
      refine own_go (U' := T144.setTop (mkF m 45 #[.val (.int p0), .val (.int p1), .val (.int p2), .val (.int p3), .val (.int p4), .val (.int p5), .val (.int y7), .val (.ref b78), .unset] [(.int (2 : Int32)), (.int y7)])) (fun _ k => XS.iconst X144.here hx rfl (hb hby at_44) k) ?_
      have hc45_164 : ¬ ((2 : Int32) < y7) := own_nlt hc31_145 (by decide)
      refine own_go (U' := T144.setTop (mkF m 56 #[.val (.int p0), .val (.int p1), .val (.int p2), .val (.int p3), .val (.int p4), .val (.int p5), .val (.int y7), .val (.ref b78), .unset] [])) (fun _ k => XS.icmpYes X144.here hx rfl (pc0 := 45) (pc' := 56) rfl (hb hby at_45) rfl (flt hc45_164).2.2.2 (by decide) (by decide) k) ?_
      refine own_go (U' := T144.setTop (mkF m 58 #[.val (.int p0), .val (.int p1), .val (.int p2), .val (.int p3), .val (.int p4), .val (.int p5), .val (.int y7), .val (.ref b78), .unset] [(.int y7)])) (fun _ k => XS.iload X144.here hx rfl (hb hby at_56) rfl k) ?_
      refine own_go (U' := T144.setTop (mkF m 59 #[.val (.int p0), .val (.int p1), .val (.int p2), .val (.int p3), .val (.int p4), .val (.int p5), .val (.int y7), .val (.ref b78), .unset] [(.int (3 : Int32)), (.int y7)])) (fun _ k => XS.iconst X144.here hx rfl (hb hby at_58) k) ?_
      have hc59_165 : ¬ ((3 : Int32) < y7) := own_nlt hc31_145 (by decide)
      refine own_go (U' := T144.setTop (mkF m 71 #[.val (.int p0), .val (.int p1), .val (.int p2), .val (.int p3), .val (.int p4), .val (.int p5), .val (.int y7), .val (.ref b78), .unset] [])) (fun _ k => XS.icmpYes X144.here hx rfl (pc0 := 59) (pc' := 71) rfl (hb hby at_59) rfl (flt hc59_165).2.2.2 (by decide) (by decide) k) ?_
      refine own_go (U' := T144.setTop (mkF m 73 #[.val (.int p0), .val (.int p1), .val (.int p2), .val (.int p3), .val (.int p4), .val (.int p5), .val (.int y7), .val (.ref b78), .unset] [(.int y7)])) (fun _ k => XS.iload X144.here hx rfl (hb hby at_71) rfl k) ?_
      refine own_go (U' := T144.setTop (mkF m 74 #[.val (.int p0), .val (.int p1), .val (.int p2), .val (.int p3), .val (.int p4), .val (.int p5), .val (.int y7), .val (.ref b78), .unset] [(.int (4 : Int32)), (.int y7)])) (fun _ k => XS.iconst X144.here hx rfl (hb hby at_73) k) ?_
      have hc74_166 : ¬ ((4 : Int32) < y7) := own_nlt hc31_145 (by decide)
      refine own_go (U' := T144.setTop (mkF m 86 #[.val (.int p0), .val (.int p1), .val (.int p2), .val (.int p3), .val (.int p4), .val (.int p5), .val (.int y7), .val (.ref b78), .unset] [])) (fun _ k => XS.icmpYes X144.here hx rfl (pc0 := 74) (pc' := 86) rfl (hb hby at_74) rfl (flt hc74_166).2.2.2 (by decide) (by decide) k) ?_
      exact tail _ _ X144 _ e144 N144 Z144 _ w144
  · refine own_go (U' := T78.setTop (mkF m 28 #[.val (.int p0), .val (.int p1), .val (.int p2), .val (.int p3), .val (.int p4), .val (.int p5), .val (.int y7), .val (.ref b78), .unset] [])) (fun _ k => XS.ifYes X78.here hx rfl (pc0 := 17) (pc' := 28) rfl (hb hby at_17) rfl ((if0 _ _).trans (flt hc17_141).2.2.2) (by decide) (by decide) k) ?_
    refine own_go (U' := T78.setTop (mkF m 30 #[.val (.int p0), .val (.int p1), .val (.int p2), .val (.int p3), .val (.int p4), .val (.int p5), .val (.int y7), .val (.ref b78), .unset] [(.int y7)])) (fun _ k => XS.iload X78.here hx rfl (hb hby at_28) rfl k) ?_
    refine own_go (U' := T78.setTop (mkF m 31 #[.val (.int p0), .val (.int p1), .val (.int p2), .val (.int p3), .val (.int p4), .val (.int p5), .val (.int y7), .val (.ref b78), .unset] [(.int (1 : Int32)), (.int y7)])) (fun _ k => XS.iconst X78.here hx rfl (hb hby at_30) k) ?_
    have hc31_167 : ¬ ((1 : Int32) < y7) := own_nlt hc17_141 (by decide)
    refine own_go (U' := T78.setTop (mkF m 42 #[.val (.int p0), .val (.int p1), .val (.int p2), .val (.int p3), .val (.int p4), .val (.int p5), .val (.int y7), .val (.ref b78), .unset] [])) (fun _ k => XS.icmpYes X78.here hx rfl (pc0 := 31) (pc' := 42) rfl (hb hby at_31) rfl (flt hc31_167).2.2.2 (by decide) (by decide) k) ?_
    refine own_go (U' := T78.setTop (mkF m 44 #[.val (.int p0), .val (.int p1), .val (.int p2), .val (.int p3), .val (.int p4), .val (.int p5), .val (.int y7), .val (.ref b78), .unset] [(.int y7)])) (fun _ k => XS.iload X78.here hx rfl (hb hby at_42) rfl k) ?_
    refine own_go (U' := T78.setTop (mkF m 45 #[.val (.int p0), .val (.int p1), .val (.int p2), .val (.int p3), .val (.int p4), .val (.int p5), .val (.int y7), .val (.ref b78), .unset] [(.int (2 : Int32)), (.int y7)])) (fun _ k => XS.iconst X78.here hx rfl (hb hby at_44) k) ?_
    have hc45_168 : ¬ ((2 : Int32) < y7) := own_nlt hc17_141 (by decide)
    refine own_go (U' := T78.setTop (mkF m 56 #[.val (.int p0), .val (.int p1), .val (.int p2), .val (.int p3), .val (.int p4), .val (.int p5), .val (.int y7), .val (.ref b78), .unset] [])) (fun _ k => XS.icmpYes X78.here hx rfl (pc0 := 45) (pc' := 56) rfl (hb hby at_45) rfl (flt hc45_168).2.2.2 (by decide) (by decide) k) ?_
    refine own_go (U' := T78.setTop (mkF m 58 #[.val (.int p0), .val (.int p1), .val (.int p2), .val (.int p3), .val (.int p4), .val (.int p5), .val (.int y7), .val (.ref b78), .unset] [(.int y7)])) (fun _ k => XS.iload X78.here hx rfl (hb hby at_56) rfl k) ?_
    refine own_go (U' := T78.setTop (mkF m 59 #[.val (.int p0), .val (.int p1), .val (.int p2), .val (.int p3), .val (.int p4), .val (.int p5), .val (.int y7), .val (.ref b78), .unset] [(.int (3 : Int32)), (.int y7)])) (fun _ k => XS.iconst X78.here hx rfl (hb hby at_58) k) ?_
    have hc59_169 : ¬ ((3 : Int32) < y7) := own_nlt hc17_141 (by decide)
    refine own_go (U' := T78.setTop (mkF m 71 #[.val (.int p0), .val (.int p1), .val (.int p2), .val (.int p3), .val (.int p4), .val (.int p5), .val (.int y7), .val (.ref b78), .unset] [])) (fun _ k => XS.icmpYes X78.here hx rfl (pc0 := 59) (pc' := 71) rfl (hb hby at_59) rfl (flt hc59_169).2.2.2 (by decide) (by decide) k) ?_
    refine own_go (U' := T78.setTop (mkF m 73 #[.val (.int p0), .val (.int p1), .val (.int p2), .val (.int p3), .val (.int p4), .val (.int p5), .val (.int y7), .val (.ref b78), .unset] [(.int y7)])) (fun _ k => XS.iload X78.here hx rfl (hb hby at_71) rfl k) ?_
    refine own_go (U' := T78.setTop (mkF m 74 #[.val (.int p0), .val (.int p1), .val (.int p2), .val (.int p3), .val (.int p4), .val (.int p5), .val (.int y7), .val (.ref b78), .unset] [(.int (4 : Int32)), (.int y7)])) (fun _ k => XS.iconst X78.here hx rfl (hb hby at_73) k) ?_
    have hc74_170 : ¬ ((4 : Int32) < y7) := own_nlt hc17_141 (by decide)
    refine own_go (U' := T78.setTop (mkF m 86 #[.val (.int p0), .val (.int p1), .val (.int p2), .val (.int p3), .val (.int p4), .val (.int p5), .val (.int y7), .val (.ref b78), .unset] [])) (fun _ k => XS.icmpYes X78.here hx rfl (pc0 := 74) (pc' := 86) rfl (hb hby at_74) rfl (flt hc74_170).2.2.2 (by decide) (by decide) k) ?_
    exact tail _ _ X78 _ e78 N0 Z78 _ V_b78
set_option maxRecDepth 65536 in
set_option maxHeartbeats 40000000 in
theorem comes_1 {Post : Tables → Env → Array Value → State → Outcome → State → Prop} (hpost : ∀ tb e args s v u, (limb_1_1.after args s (.returned v) u = true ∧ limb_1_2.after args s (.returned v) u = true ∧ True) → FrameEnd s (.returned v) u (Jvm.fieldLocs frame_1_writes args s ++ Jvm.arrayLocs frame_1_arrays args s ++ Jvm.staticLocs frame_1_statics s) 16 128 → Post tb e args s (.returned v) u) :
    ArmFor flags0 classFile x code maxLocals ret World_1 tables_1 room_1 Calls_1 rest_1 Pre_1 Post := by
  intro l hfl _ _ p e ha hc hk s m args below hf hA hF happ hP
  obtain ⟨hcalls, hrest, hpre⟩ := hP
  obtain ⟨-, -, -, hnamed, -, -, -, hat⟩ := (Spec.applies_iff hf).mp happ
  obtain ⟨hg, hn⟩ := and_e (Cond.before_iff.mp (show (Jvm.Cond.and given_1 narrow_1).before args s = true from hpre))
  obtain ⟨hcnt, hg0⟩ := and_e hg
  obtain ⟨hv0, hg1⟩ := and_e hg0
  obtain ⟨hv1, hg2⟩ := and_e hg1
  obtain ⟨hv2, hg3⟩ := and_e hg2
  obtain ⟨hv3, hg4⟩ := and_e hg3
  obtain ⟨hv4, hg5⟩ := and_e hg4
  have hv5 := hg5
  obtain ⟨w0, w1, w2, w3, w4, w5, rfl⟩ : ∃ w0 w1 w2 w3 w4 w5 : Value, args = #[w0, w1, w2, w3, w4, w5] := by
    have hs : args.size = 6 := by simpa [Cond.value, given_1] using hcnt
    obtain ⟨L⟩ := args
    match L, hs with
    | [w0, w1, w2, w3, w4, w5], _ => exact ⟨w0, w1, w2, w3, w4, w5, rfl⟩
  have hw := fun d (hd : d ∈ tables_1) => atoms_spec (ws := Jvm.Cond.code x code maxLocals ret :: tables_1) hat d (List.mem_cons_of_mem _ hd)
  have hfit : Fit s := fun {y c} hc i hi => by
    obtain ⟨ha, rfl⟩ := Array.getElem?_eq_some_iff.mp hc
    have q := List.all_eq_true.mp ((Array.all_eq_true_iff_forall_mem.mp hF) _ (Array.getElem_mem ha)) i (List.mem_range.mpr hi)
    simpa [Array.getElem?_eq_getElem hi] using q
  obtain ⟨i0, ei0⟩ := is_v hv0
  obtain rfl : w0 = (.int i0) := Option.some.inj ei0
  obtain ⟨i1, ei1⟩ := is_v hv1
  obtain rfl : w1 = (.int i1) := Option.some.inj ei1
  obtain ⟨i2, ei2⟩ := is_v hv2
  obtain rfl : w2 = (.int i2) := Option.some.inj ei2
  obtain ⟨i3, ei3⟩ := is_v hv3
  obtain rfl : w3 = (.int i3) := Option.some.inj ei3
  obtain ⟨i4, ei4⟩ := is_v hv4
  obtain rfl : w4 = (.int i4) := Option.some.inj ei4
  obtain ⟨i5, ei5⟩ := is_v hv5
  obtain rfl : w5 = (.int i5) := Option.some.inj ei5
  obtain ⟨n, o, h1, h2, h3, _, L, rfl, ⟨rfl, N⟩, hq⟩ := rm0 l s _ hw tables_1 i0 i1 i2 i3 i4 i5 s.heap s.heap.size (Nat.le_refl _)  p e ha hc hk s m _ below hf ((Spec.applies_iff_loose hf).mp happ).1 ⟨rfl, State.Warmed39.refl s, rfl⟩ trivial
  refine ⟨n, _, h1, h2, h3, hpost _ _ _ _ _ _ ⟨Cond.after_iff.mpr rfl, Cond.after_iff.mpr (eq_i res_at (Term.int_eval (1)) rfl), trivial⟩ ⟨hq.1, hq.2.1, (hq.2.2.sift fun y hy => Or.inr (N y hy)).mono (by decide) (by decide)⟩⟩
theorem main_1_1 : Claimed_1_1 := comes_1 fun _ _ _ _ _ _ h hF => ⟨h.1, hF⟩
theorem main_1_2 : Claimed_1_2 := comes_1 fun _ _ _ _ _ _ h hF => ⟨h.2.1, hF⟩
end Jvm.Pilot.@@N@@
namespace Jvm.Pilot.@@N@@
open Jvm Jvm.ClassFile Sem Op Lib Jvm.Free Jvm.Stand Jvm.Pilot.@@N@@.Jvm.D
/-! MADE BY PROGRAM (witnessworld.py) out of the Statement's table words and the real class files: 9 classes; the members and pool entries that the words name. The judged class is class 1, her method 3. -/
namespace start1
open Jvm.ClassFile
def u (s : String) : CpInfo := .utf8 (stringToUtf16 s)
/-- a pool by its gaps: so many unusable entries, then the entry; so many at the end -/
def gap : Nat → List CpInfo → List CpInfo
  | 0, r => r
  | n + 1, r => .unusable :: gap n r
def poolList (es : List (Nat × CpInfo)) (last : Nat) : List CpInfo := es.foldr (fun e r => gap e.1 (e.2 :: r)) (gap last [])
def pool (es : List (Nat × CpInfo)) (last : Nat) : Array CpInfo := ⟨poolList es last⟩
def fileOf (pool : Array CpInfo) (this : Nat) (attrs : Array Attribute := #[]) (ms : Array MethodInfo := #[]) (fl : Nat := 33) (sup : Nat := 0) (ifs : Array Nat := #[]) (fds : Array FieldInfo := #[]) : ClassFile where
  minorVersion := 0
  majorVersion := 65
  constantPool := pool
  accessFlags := fl
  thisClass := this
  superClass := sup
  interfaces := ifs
  fields := fds
  methods := ms
  attributes := attrs
def plain (name : String) (sup : Option ClassId) : Class where
  name := name
  kind := .ordinary
  loader := none
  accessFlags := 33
  super := sup
  interfaces := #[]
  cf := none
  fields := #[]
  methods := #[]
  instanceTypes := #[]
  staticTypes := #[]
  resolved := #[]
  callSites := []
  init := .initialized
  statics := none
  mirror := none

def pool0 : Array CpInfo := pool [(5, u "<init>"), (0, u "()V"), (1, .class_ 10), (1, u "java/lang/Object")] 113

def k0m0 : Method := { name := "<init>", desc := "()V", sig := { parameters := [], returnType := none }, accessFlags := 1, code := none }
/-- java/lang/Object -/
def k0 : Class := { plain "java/lang/Object" none with
  accessFlags := 33
  interfaces := #[]
  cf := some (fileOf pool0 8 #[] #[{ accessFlags := 1, nameIndex := 5, descriptorIndex := 6, attributes := #[] }] 33 0 #[] #[])
  fields := #[]
  methods := #[k0m0]
  instanceTypes := #[]
  staticTypes := #[]
  resolved := Array.replicate 124 none
  statics := none }

def pool1 : Array CpInfo := pool [(2, .class_ 4), (1, u "java/lang/Object"), (0, u "<init>"), (0, u "()V"), (0, .integer 2147483647), (0, .methodref 9 10), (0, .class_ 11), (0, .nameAndType 12 13), (0, u "com/example/hashtory/hashtory/TextFieldsEndOfLinesPinLaw"), (0, u "draw"), (0, u "(I)B"), (0, .methodref 9 15), (0, .nameAndType 16 17), (0, u "lf"), (0, u "([BI)Z"), (0, .methodref 19 20), (0, .class_ 21), (0, .nameAndType 22 23), (0, u "com/example/hashtory/hashtory/TextFields"), (0, u "endOfLines"), (0, u "([B)I"), (3, u "law"), (0, u "(IIIIII)Z")] 4

def k1m0 : Method := { name := "<init>", desc := "()V", sig := { parameters := [], returnType := none }, accessFlags := 1, code := none }
def k1c1 : Code := { maxStack := 2, maxLocals := 1, code := method_2_code, exceptionTable := #[], attributes := #[] }
def k1m1 : Method := { name := "draw", desc := "(I)B", sig := { parameters := [.int], returnType := some .byte }, accessFlags := 10, code := some k1c1 }
def k1c2 : Code := { maxStack := 2, maxLocals := 2, code := method_3_code, exceptionTable := #[], attributes := #[] }
def k1m2 : Method := { name := "lf", desc := "([BI)Z", sig := { parameters := [(.array .byte), .int], returnType := some .boolean }, accessFlags := 10, code := some k1c2 }
def k1c3 : Code := { maxStack := 3, maxLocals := 9, code := code, exceptionTable := #[], attributes := #[] }
def k1m3 : Method := { name := "law", desc := "(IIIIII)Z", sig := { parameters := [.int, .int, .int, .int, .int, .int], returnType := some .boolean }, accessFlags := 9, code := some k1c3 }
/-- com/example/hashtory/hashtory/TextFieldsEndOfLinesPinLaw -/
def k1 : Class := { plain "com/example/hashtory/hashtory/TextFieldsEndOfLinesPinLaw" (some 0) with
  accessFlags := 49
  interfaces := #[]
  cf := some (fileOf pool1 9 #[] #[{ accessFlags := 1, nameIndex := 5, descriptorIndex := 6, attributes := #[] }, { accessFlags := 10, nameIndex := 12, descriptorIndex := 13, attributes := #[] }, { accessFlags := 10, nameIndex := 16, descriptorIndex := 17, attributes := #[] }, { accessFlags := 9, nameIndex := 27, descriptorIndex := 28, attributes := #[] }] 49 2 #[] #[])
  fields := #[]
  methods := #[k1m0, k1m1, k1m2, k1m3]
  instanceTypes := #[]
  staticTypes := #[]
  resolved := Array.replicate 33 none
  statics := none }

def pool2 : Array CpInfo := pool [(2, .class_ 4), (1, u "java/lang/Object"), (0, u "<init>"), (0, u "()V"), (1, .class_ 10), (1, u "com/example/hashtory/hashtory/TextFields"), (0, u "DECIMAL"), (0, u "Ljava/util/regex/Pattern;"), (89, u "endOfLines"), (0, u "([B)I")] 26

def k2m0 : Method := { name := "<init>", desc := "()V", sig := { parameters := [], returnType := none }, accessFlags := 2, code := none }
def k2c1 : Code := { maxStack := 3, maxLocals := 2, code := prog_17_method_4_code, exceptionTable := #[], attributes := #[] }
def k2m1 : Method := { name := "endOfLines", desc := "([B)I", sig := { parameters := [(.array .byte)], returnType := some .int }, accessFlags := 8, code := some k2c1 }
/-- com/example/hashtory/hashtory/TextFields -/
def k2 : Class := { plain "com/example/hashtory/hashtory/TextFields" (some 0) with
  accessFlags := 48
  interfaces := #[]
  cf := some (fileOf pool2 8 #[] #[{ accessFlags := 2, nameIndex := 5, descriptorIndex := 6, attributes := #[] }, { accessFlags := 8, nameIndex := 102, descriptorIndex := 103, attributes := #[] }] 48 2 #[] #[{ accessFlags := 26, nameIndex := 11, descriptorIndex := 12, attributes := #[] }])
  fields := #[{ name := "DECIMAL", type := (.object "java/util/regex/Pattern"), accessFlags := 26, slot := 0, constantValue := 0 }]
  methods := #[k2m0, k2m1]
  instanceTypes := #[]
  staticTypes := #[(.object "java/util/regex/Pattern")]
  resolved := Array.replicate 130 none
  statics := none }

def pool3 : Array CpInfo := pool [(1, u "java/lang/Cloneable"), (0, .class_ 1), (0, u "java/lang/Object"), (0, .class_ 3)] 3

/-- java/lang/Cloneable -/
def k3 : Class := { plain "java/lang/Cloneable" (some 0) with
  accessFlags := 1537
  interfaces := #[]
  cf := some (fileOf pool3 2 #[] #[] 1537 4 #[] #[])
  fields := #[]
  methods := #[]
  instanceTypes := #[]
  staticTypes := #[]
  resolved := Array.replicate 8 none
  statics := none }

def pool4 : Array CpInfo := pool [(1, u "java/io/Serializable"), (0, .class_ 1), (0, u "java/lang/Object"), (0, .class_ 3)] 3

/-- java/io/Serializable -/
def k4 : Class := { plain "java/io/Serializable" (some 0) with
  accessFlags := 1537
  interfaces := #[]
  cf := some (fileOf pool4 2 #[] #[] 1537 4 #[] #[])
  fields := #[]
  methods := #[]
  instanceTypes := #[]
  staticTypes := #[]
  resolved := Array.replicate 8 none
  statics := none }

/-- the primitive byte -/
def k5 : Class := { plain "byte" none with kind := .primitive 'B', accessFlags := 0x411 }
/-- [B -/
def k6 : Class := { plain "[B" (some 0) with kind := .array 5 .byte, interfaces := #[3, 4], accessFlags := 1041 }

/-- the primitive int -/
def k7 : Class := { plain "int" none with kind := .primitive 'I', accessFlags := 0x411 }
/-- [I -/
def k8 : Class := { plain "[I" (some 0) with kind := .array 7 .int, interfaces := #[3, 4], accessFlags := 1041 }

def heap : Heap := #[]
def classes : Array Class := #[k0, k1, k2, k3, k4, k5, k6, k7, k8]
def interned : List (Array UInt16 × Addr) := []
def slotsUsed : Nat := 0
def theMethod : MethodId := ⟨1, 3⟩
def args0 : Array Value := #[.int 3, .int 4, .int 6, .int 7, .int 1, .int 2]
def aboutOver (below : List Frame) : State where
  vm := { classes := classes, interned := interned.toArray }
  heap := heap
  slotsUsed := slotsUsed
  threads := #[{ frames := .invoking theMethod args0 :: below }]
def below0 : List Frame := [.native { method := ⟨0, 0⟩, args := #[] }]
def about1 : State := aboutOver below0
def p0 : Program := .bare "" "" ""
def e0 : Env := launch0.env 0 0 0
theorem w_frames : about1.frames = Frame.invoking theMethod args0 :: below0 := rfl
set_option maxRecDepth 65536 in
theorem w_args : argsFit about1.vm theMethod args0 = true := by decide +kernel
set_option maxRecDepth 65536 in
theorem w_heap : heapFits about1 = true := by decide +kernel
set_option maxRecDepth 65536 in
theorem w_runnable : about1.curStatus? = some .runnable := by decide +kernel
set_option maxRecDepth 65536 in
theorem w_alone : about1.alone = true := by decide +kernel
set_option maxRecDepth 65536 in
theorem w_named : about1.methodNamed? x = some theMethod := by decide +kernel
set_option maxRecDepth 65536 in
theorem w_hears : about1.hears theMethod below0 = true := by decide +kernel
set_option maxRecDepth 65536 in
theorem w_ripe : about1.ripe theMethod args0 below0 = true := by decide +kernel
theorem w_running : about1.status = .running := rfl
set_option maxRecDepth 65536 in
theorem w_room : about1.hasRoom e0.platform room_1 = true :=
  launch0.hasRoom_least _ room_1 (by decide +kernel) (by decide +kernel) (by decide +kernel) (by decide +kernel) (by decide +kernel) (by decide +kernel)
theorem allAtoms_all (ts : List Jvm.Cond) (a : Array Jvm.Value) (st : Jvm.State) : (allAtoms ts).before a st = ts.all (fun c => c.before a st) := by
  induction ts with
  | nil => rfl
  | cons c t ih =>
    show (Jvm.Cond.and c (allAtoms t)).before a st = _
    rw [Jvm.Cond.before_and, ih, List.all_cons]
def words1 : List Jvm.Cond := Jvm.Cond.code x code maxLocals ret :: tables_1
/-- a 'code' word, met by the world's own term for the bytes: nothing is compared byte by byte -/
theorem code_word {y : MethodName} {bytes : ByteArray} {mx : Nat} {rt : Option FieldType} {a : Array Value} {s : State} {m : MethodId} {meth : Method} {c : Code} (h1 : s.methodNamed? y = some m) (h2 : s.vm.method? m = some meth) (h3 : meth.code = some c) (h4 : c.code = bytes)
    (h5 : (c.maxLocals == mx && c.exceptionTable.isEmpty && decide (c.maxStack ≤ mostOperands) && decide (meth.sig.returnType = rt) && !meth.locks && decide (parseMethodDescriptor y.desc = some meth.sig)) = true) : (Jvm.Cond.code y bytes mx rt).before a s = true := by
  simp only [Bool.and_eq_true, beq_iff_eq, Bool.not_eq_true', decide_eq_true_eq] at h5
  obtain ⟨⟨⟨⟨⟨g1, g2⟩, g3⟩, g4⟩, g5⟩, g6⟩ := h5
  simp [Cond.before, Cond.holds, Cond.value, h1, h2, h3, h4, g1, g2, g3, g4, g5, g6]
def isCode : Jvm.Cond → Bool
  | .code _ _ _ _ => true
  | _ => false
theorem all_split {L : List Jvm.Cond} {P : Jvm.Cond → Bool} (h1 : L.all (fun c => isCode c || P c) = true) (h2 : ∀ c ∈ L.filter isCode, P c = true) : L.all P = true := by
  refine List.all_eq_true.mpr fun c hc => ?_
  have h := List.all_eq_true.mp h1 c hc
  rcases Bool.eq_false_or_eq_true (isCode c) with hi | hi
  · exact h2 c (List.mem_filter.mpr ⟨hc, hi⟩)
  · simpa [hi] using h
set_option maxRecDepth 65536 in
theorem w_c0 : (Jvm.Cond.code x code maxLocals ret).before args0 about1 = true := code_word (m := ⟨1, 3⟩) (meth := k1m3) (c := k1c3) (by decide +kernel) rfl rfl rfl (by decide +kernel)
set_option maxRecDepth 65536 in
theorem w_c1 : (Jvm.Cond.code ({ cls := "com/example/hashtory/hashtory/TextFieldsEndOfLinesPinLaw", name := "lf", desc := "([BI)Z" } : Jvm.MethodName) method_3_code (2 : Nat) (Option.some Jvm.ClassFile.FieldType.boolean)).before args0 about1 = true := code_word (m := ⟨1, 2⟩) (meth := k1m2) (c := k1c2) (by decide +kernel) rfl rfl rfl (by decide +kernel)
set_option maxRecDepth 65536 in
theorem w_c2 : (Jvm.Cond.code ({ cls := "com/example/hashtory/hashtory/TextFields", name := "endOfLines", desc := "([B)I" } : Jvm.MethodName) prog_17_method_4_code (2 : Nat) (Option.some Jvm.ClassFile.FieldType.int)).before args0 about1 = true := code_word (m := ⟨2, 1⟩) (meth := k2m1) (c := k2c1) (by decide +kernel) rfl rfl rfl (by decide +kernel)
set_option maxRecDepth 65536 in
theorem w_c3 : (Jvm.Cond.code ({ cls := "com/example/hashtory/hashtory/TextFieldsEndOfLinesPinLaw", name := "draw", desc := "(I)B" } : Jvm.MethodName) method_2_code (1 : Nat) (Option.some Jvm.ClassFile.FieldType.byte)).before args0 about1 = true := code_word (m := ⟨1, 1⟩) (meth := k1m1) (c := k1c1) (by decide +kernel) rfl rfl rfl (by decide +kernel)
def codes1 : List Jvm.Cond := [Jvm.Cond.code x code maxLocals ret, Jvm.Cond.code ({ cls := "com/example/hashtory/hashtory/TextFieldsEndOfLinesPinLaw", name := "lf", desc := "([BI)Z" } : Jvm.MethodName) method_3_code (2 : Nat) (Option.some Jvm.ClassFile.FieldType.boolean), Jvm.Cond.code ({ cls := "com/example/hashtory/hashtory/TextFields", name := "endOfLines", desc := "([B)I" } : Jvm.MethodName) prog_17_method_4_code (2 : Nat) (Option.some Jvm.ClassFile.FieldType.int), Jvm.Cond.code ({ cls := "com/example/hashtory/hashtory/TextFieldsEndOfLinesPinLaw", name := "draw", desc := "(I)B" } : Jvm.MethodName) method_2_code (1 : Nat) (Option.some Jvm.ClassFile.FieldType.byte)]
set_option maxRecDepth 65536 in
theorem codes_eq : words1.filter isCode = codes1 := rfl
theorem w_codes : ∀ c ∈ words1.filter isCode, c.before args0 about1 = true := by
  rw [codes_eq]
  intro c hc
  simp only [codes1, List.mem_cons, List.not_mem_nil, or_false] at hc
  rcases hc with rfl | rfl | rfl | rfl
  · exact w_c0
  · exact w_c1
  · exact w_c2
  · exact w_c3
set_option maxRecDepth 65536 in
theorem w_t1 : words1.all (fun c => isCode c || c.before args0 about1) = true := by decide +kernel
theorem w_tables : (allAtoms (Jvm.Cond.code x code maxLocals ret :: tables_1)).before args0 about1 = true := by
  rw [allAtoms_all]
  show words1.all (fun c => c.before args0 about1) = true
  refine all_split ?_ w_codes
  rw [w_t1]
set_option maxRecDepth 65536 in
theorem w_case : (Jvm.Cond.and given_1 narrow_1).before args0 about1 = true := by decide +kernel
theorem w_applies : (headSpec (Jvm.Cond.code x code maxLocals ret :: tables_1) room_1).applies x e0.platform about1 = true :=
  (Spec.applies_iff w_frames).mpr ⟨w_running, w_runnable, w_alone, w_named, w_hears, w_ripe, w_room, w_tables⟩
theorem atStart : AtStart classFile x code maxLocals ret World_1 tables_1 room_1 Calls_1 rest_1 Pre_1 launch0 p0 e0 about1 theMethod args0 below0 :=
  ⟨lists_1, trivial, launch0.admits_env _ _ _, launch0.least_env, fairChoices_fair.cas, fairChoices_fair.clock, w_frames, w_args, w_heap, w_applies, trivial, trivial, w_case⟩
end start1
theorem witness_1 : WitnessClaimed_1 := ⟨start1.p0, start1.e0, start1.about1, start1.theMethod, start1.args0, start1.below0, start1.atStart⟩
end Jvm.Pilot.@@N@@
