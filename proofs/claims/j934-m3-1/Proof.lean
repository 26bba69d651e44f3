import JvmDerived
import JvmDerived.Pilot.@@N@@Statement
import JvmDerived.Pilot.@@N@@Code
set_option linter.unusedVariables false
set_option linter.unusedSimpArgs false
namespace Jvm.Pilot.@@N@@
open Jvm Jvm.ClassFile Sem Op Lib Jvm.Free Jvm.Stand Jvm.LawKit Jvm.RoadKit Bundle Jvm.Pilot.@@N@@.Jvm.D

section Own
variable {p : Program} {l : Launch} {e : Env} {R : Room} {s : State} {m : MethodId} {args : Array Value} {below : List Frame} {meth : Method} {c : Code} {T : State} {locs : List Loc} {cells slots : Nat} {Qo : Option Value → Heap → List Loc → Prop} {C N : Nat}
/-- the run goes on from U to a return that answers Qo -/
def own_Done (p : Program) (e : Env) (below : List Frame) (s : State) (Qo : Option Value → Heap → List Loc → Prop) (C N : Nat) (U : State) : Prop :=
  ∃ s₂ o, Steps p.tables e below U s₂ ∧ s₂.status = .running ∧ Ended s₂ below o ∧ (∃ v L, o = .returned v ∧ Qo v s₂.heap L ∧ FrameEnd s o s₂ L C N)
theorem own_go {U U' : State} (h : ∀ t, Steps p.tables e below U' t → Steps p.tables e below U t) (d : own_Done p e below s Qo C N U') : own_Done p e below s Qo C N U := by
  obtain ⟨s₂, o, h1, h2⟩ := d
  exact ⟨s₂, o, h _ h1, h2⟩
theorem own_join {U U' : State} (h : own_Done p e below s Qo C N U' → own_Done p e below s Qo C N U) (d : own_Done p e below s Qo C N U') : own_Done p e below s Qo C N U := h d
theorem own_sta_keep {Z : State} {h h' : Heap} {C n d : String} {v : Value} (F : Sta Z h C n d v) (K : Keep h h' []) : Sta Z h' C n d v := by
  obtain ⟨cf, i, k, f, st, cell, h1, h2, h3, h4, h5, r⟩ := F
  exact ⟨cf, i, k, f, st, cell, h1, h2, h3, h4, K.2.1 st cell h5 (fun q => nomatch q), r⟩
theorem own_at {c : Cell} {z j : Int32} {vs : List Value} {d v : Value} {i : Nat} (S : c.slots.size = z.toNatClampNeg) (H : Has c vs d) (q : ¬ j < 0 ∧ j < z) (hj : j.toNatClampNeg = i) (hv : vs.getD i d = v) : c.slots[j.toNatClampNeg]? = some v := by
  have h := inb_of S q
  rw [H _ (Nat.lt_of_not_le fun k => h (Or.inr k)), hj, hv]
/-- an array of ints, bytes, chars .. by what its places hold -/
def own_Arf (Z : State) (h : Heap) (a : Addr) (k : ClassId) (ty : FieldType) (n : Int32) (f : Int32 → Int32) : Prop :=
  ∃ c : Cell, Arr Z h a c ty ∧ c.cls = k ∧ c.slots.size = n.toNatClampNeg ∧ ¬ n < 0 ∧ ∀ j : Int32, ¬ j < 0 → j < n → c.slots[j.toNatClampNeg]? = some (.int (f j))
section Arf
variable {Z : State} {h h' : Heap} {a b : Addr} {k : ClassId} {ty : FieldType} {n : Int32} {f : Int32 → Int32}
theorem own_Arf.lt (F : own_Arf Z h a k ty n f) : a < h.size := by obtain ⟨c, A, -⟩ := F; exact A.lt
theorem own_Arf.ext (F : own_Arf Z h a k ty n f) (E : Ext h h') : own_Arf Z h' a k ty n f := by obtain ⟨c, A, r⟩ := F; exact ⟨c, A.ext E, r⟩
theorem own_Arf.other {sl : Nat} {v : Value} (F : own_Arf Z h b k ty n f) (W : Wr h h' a sl v) (q : b ≠ a) : own_Arf Z h' b k ty n f := by obtain ⟨c, A, r⟩ := F; exact ⟨c, A.other W q, r⟩
theorem own_Arf.keep {ws : List Addr} (F : own_Arf Z h a k ty n f) (K : Keep h h' ws) (q : a ∉ ws) : own_Arf Z h' a k ty n f := by obtain ⟨c, A, r⟩ := F; exact ⟨c, ⟨K.2.1 a c A.1 q, A.2⟩, r⟩
theorem own_Arf.new (A : Arr Z h a (newA k ty n) ty) (q : ¬ n < 0) (hd : defaultValue ty = .int 0) : own_Arf Z h a k ty n (fun _ => (0 : Int32)) :=
  ⟨_, A, rfl, sz_new _ _ _, q, fun j h1 h2 => by
    have h3 := inb_of (sz_new k ty n) (z := n) (j := j) ⟨h1, h2⟩
    rw [sz_new] at h3
    rw [get_new h3, hd]⟩
theorem own_Arf.set {c : Cell} {j v : Int32} (A : Arr Z h a c ty) (q1 : c.cls = k) (S : c.slots.size = n.toNatClampNeg) (q3 : ¬ n < 0) (H : ∀ j : Int32, ¬ j < 0 → j < n → c.slots[j.toNatClampNeg]? = some (.int (f j))) (hj : ¬ j < 0 ∧ j < n) (W : Wr h h' a j.toNatClampNeg (.int v)) :
    own_Arf Z h' a k ty n (fun i => if i = j then v else f i) :=
  ⟨c.setSlot j.toNatClampNeg (.int v), A.same W, q1, by rw [sz_set]; exact S, q3, fun i h1 h2 => by
    by_cases e : i = j
    · rw [get_hit (inb_of S hj) e]; simp only [if_pos e]
    · rw [get_miss hj.1 h1 e, H i h1 h2]; simp only [if_neg e]⟩
end Arf
theorem own_ret (X : Stand p l e R s m args below meth c T locs cells slots) {v : Option Value} {g : JFrame} (hlk : meth.locks = false) (hv : meth.sig.returnType = none → v = none) (hC : cells ≤ C) (hN : slots ≤ N)
    (st : ∀ fs, (∀ (f : JFrame) (acts : List Action), f.method = m → f.locked = none → f.entered = [] → (doReturn e (T.setTop f) acts v).1 = T.setFrames fs) → Steps p.tables e below (T.setTop g) (T.setFrames fs)) (hQ : Qo v T.heap locs) : own_Done p e below s Qo C N (T.setTop g) := by
  obtain ⟨fs, hr, hrun, hended, hW, hsame⟩ := X.leave (v := v) hv hlk
  exact ⟨_, _, st fs hr, hrun, hended, _, _, rfl, hQ, ⟨_, rfl⟩, hW, hsame.mono hC hN⟩
theorem own_retI (X : Stand p l e R s m args below meth c T locs cells slots) (hx : p.tables.exec = Jvm.exec) {pc : Nat} {Ls : Array Slot} {z : Int32} {rest : List Value} (hret : meth.sig.returnType = some .int) (hd : decode c.code pc = .ok (.ireturn, 1)) {fs : List Frame}
    (hl : ∀ (f : JFrame) (acts : List Action), f.method = m → f.locked = none → f.entered = [] → (doReturn e (T.setTop f) acts (some (.int z))).1 = T.setFrames fs) : Steps p.tables e below (T.setTop (mkF m pc Ls (.int z :: rest))) (T.setFrames fs) := by
  exact retOut X hx hret rfl (Or.inl ⟨rfl, Or.inl rfl, z, rfl⟩) hd hl
theorem own_retJ (X : Stand p l e R s m args below meth c T locs cells slots) (hx : p.tables.exec = Jvm.exec) {pc : Nat} {Ls : Array Slot} {z : Int64} {rest : List Value} (hret : meth.sig.returnType = some .long) (hd : decode c.code pc = .ok (.lreturn, 1)) {fs : List Frame}
    (hl : ∀ (f : JFrame) (acts : List Action), f.method = m → f.locked = none → f.entered = [] → (doReturn e (T.setTop f) acts (some (.long z))).1 = T.setFrames fs) : Steps p.tables e below (T.setTop (mkF m pc Ls (.long z :: rest))) (T.setFrames fs) := by
  exact retOut X hx hret rfl (Or.inr (Or.inl ⟨rfl, rfl, z, rfl⟩)) hd hl
theorem own_retR (X : Stand p l e R s m args below meth c T locs cells slots) (hx : p.tables.exec = Jvm.exec) {pc : Nat} {Ls : Array Slot} {w : Value} {t : FieldType} {rest : List Value} (hret : meth.sig.returnType = some t) (ht : t.isReference = true) (hw : w.isRef = true) (hn : narrow t w = w) (hd : decode c.code pc = .ok (.areturn, 1)) {fs : List Frame}
    (hl : ∀ (f : JFrame) (acts : List Action), f.method = m → f.locked = none → f.entered = [] → (doReturn e (T.setTop f) acts (some w)).1 = T.setFrames fs) : Steps p.tables e below (T.setTop (mkF m pc Ls (w :: rest))) (T.setFrames fs) := by
  exact retOut X hx hret hn (Or.inr (Or.inr (Or.inr (Or.inr ⟨rfl, ht, hw⟩)))) hd hl
/-- the same where Strings may be interned meanwhile -/
def own_DoneW (p : Program) (e : Env) (below : List Frame) (s : State) (Z : State) (EL : List (String × Nat)) (Qo : Option Value → Heap → List Loc → Prop) (C N : Nat) (U : State) : Prop :=
  ∃ s₂ o, Steps p.tables e below U s₂ ∧ s₂.status = .running ∧ Ended s₂ below o ∧ (∃ v L, o = .returned v ∧ Qo v s₂.heap L ∧ CHr Z EL s.vm s.heap s₂.vm s₂.heap ∧ ReturnedEndW s o s₂ L C N)
theorem own_goW {Z : State} {EL : List (String × Nat)} {U U' : State} (h : ∀ t, Steps p.tables e below U' t → Steps p.tables e below U t) (d : own_DoneW p e below s Z EL Qo C N U') : own_DoneW p e below s Z EL Qo C N U := by
  obtain ⟨s₂, o, h1, h2⟩ := d
  exact ⟨s₂, o, h _ h1, h2⟩
theorem own_joinW {Z : State} {EL : List (String × Nat)} {U U' : State} (h : own_DoneW p e below s Z EL Qo C N U' → own_DoneW p e below s Z EL Qo C N U) (d : own_DoneW p e below s Z EL Qo C N U') : own_DoneW p e below s Z EL Qo C N U := h d
theorem own_retW {Z : State} {EL : List (String × Nat)} {vm₁ : Vm} (X : Stand p l e R (s.setVm vm₁) m args below meth c T locs cells slots) {n : Nat} (hS : s.Since vm₁ n) (hn : n ≤ T.heap.size) (hC : CHr Z EL s.vm s.heap T.vm T.heap) {v : Option Value} {g : JFrame} (hlk : meth.locks = false) (hv : meth.sig.returnType = none → v = none) (hCc : cells ≤ C) (hN : slots ≤ N)
    (st : ∀ fs, (∀ (f : JFrame) (acts : List Action), f.method = m → f.locked = none → f.entered = [] → (doReturn e (T.setTop f) acts v).1 = T.setFrames fs) → Steps p.tables e below (T.setTop g) (T.setFrames fs)) (hQ : Qo v T.heap locs) : own_DoneW p e below s Z EL Qo C N (T.setTop g) := by
  obtain ⟨fs, hr, hrun, hended, hE⟩ := X.leaveW hS hn (v := v) hv hlk
  exact ⟨_, _, st fs hr, hrun, hended, _, _, rfl, hQ, hC, hE.1, hE.2.1, hE.2.2.1, hE.2.2.2.mono hCc hN⟩
end Own

theorem d2_0 : decode method_2_code 0 = .ok (.iload_n 0, 1) := by decide +kernel
theorem d2_1 : decode method_2_code 1 = .ok (.ifCond .ge 5, 3) := by decide +kernel
theorem d2_4 : decode method_2_code 4 = .ok (.iconst 1, 1) := by decide +kernel
theorem d2_5 : decode method_2_code 5 = .ok (.ireturn, 1) := by decide +kernel
theorem d2_6 : decode method_2_code 6 = .ok (.iload_n 0, 1) := by decide +kernel
theorem d2_7 : decode method_2_code 7 = .ok (.sipush 128, 3) := by decide +kernel
theorem d2_10 : decode method_2_code 10 = .ok (.if_icmp .lt 5, 3) := by decide +kernel
theorem d2_15 : decode method_2_code 15 = .ok (.iload_n 0, 1) := by decide +kernel
theorem d2_16 : decode method_2_code 16 = .ok (.bipush 32, 2) := by decide +kernel
theorem d2_18 : decode method_2_code 18 = .ok (.if_icmp .gt 5, 3) := by decide +kernel
theorem d2_23 : decode method_2_code 23 = .ok (.iload_n 0, 1) := by decide +kernel
theorem d2_24 : decode method_2_code 24 = .ok (.bipush 127, 2) := by decide +kernel
theorem d2_26 : decode method_2_code 26 = .ok (.if_icmp .ne 5, 3) := by decide +kernel
theorem d2_29 : decode method_2_code 29 = .ok (.iconst 1, 1) := by decide +kernel
theorem d2_30 : decode method_2_code 30 = .ok (.ireturn, 1) := by decide +kernel
theorem d2_31 : decode method_2_code 31 = .ok (.iload_n 0, 1) := by decide +kernel
theorem d2_32 : decode method_2_code 32 = .ok (.bipush 60, 2) := by decide +kernel
theorem d2_34 : decode method_2_code 34 = .ok (.if_icmp .eq 51, 3) := by decide +kernel
theorem d2_85 : decode method_2_code 85 = .ok (.iconst 1, 1) := by decide +kernel
theorem d2_86 : decode method_2_code 86 = .ok (.goto 4, 3) := by decide +kernel
theorem d2_90 : decode method_2_code 90 = .ok (.ireturn, 1) := by decide +kernel
theorem d2_37 : decode method_2_code 37 = .ok (.iload_n 0, 1) := by decide +kernel
theorem d2_38 : decode method_2_code 38 = .ok (.bipush 62, 2) := by decide +kernel
theorem d2_40 : decode method_2_code 40 = .ok (.if_icmp .eq 45, 3) := by decide +kernel
theorem d2_43 : decode method_2_code 43 = .ok (.iload_n 0, 1) := by decide +kernel
theorem d2_44 : decode method_2_code 44 = .ok (.bipush 34, 2) := by decide +kernel
theorem d2_46 : decode method_2_code 46 = .ok (.if_icmp .eq 39, 3) := by decide +kernel
theorem d2_49 : decode method_2_code 49 = .ok (.iload_n 0, 1) := by decide +kernel
theorem d2_50 : decode method_2_code 50 = .ok (.bipush 123, 2) := by decide +kernel
theorem d2_52 : decode method_2_code 52 = .ok (.if_icmp .eq 33, 3) := by decide +kernel
theorem d2_55 : decode method_2_code 55 = .ok (.iload_n 0, 1) := by decide +kernel
theorem d2_56 : decode method_2_code 56 = .ok (.bipush 125, 2) := by decide +kernel
theorem d2_58 : decode method_2_code 58 = .ok (.if_icmp .eq 27, 3) := by decide +kernel
theorem d2_61 : decode method_2_code 61 = .ok (.iload_n 0, 1) := by decide +kernel
theorem d2_62 : decode method_2_code 62 = .ok (.bipush 124, 2) := by decide +kernel
theorem d2_64 : decode method_2_code 64 = .ok (.if_icmp .eq 21, 3) := by decide +kernel
theorem d2_67 : decode method_2_code 67 = .ok (.iload_n 0, 1) := by decide +kernel
theorem d2_68 : decode method_2_code 68 = .ok (.bipush 92, 2) := by decide +kernel
theorem d2_70 : decode method_2_code 70 = .ok (.if_icmp .eq 15, 3) := by decide +kernel
theorem d2_73 : decode method_2_code 73 = .ok (.iload_n 0, 1) := by decide +kernel
theorem d2_74 : decode method_2_code 74 = .ok (.bipush 94, 2) := by decide +kernel
theorem d2_76 : decode method_2_code 76 = .ok (.if_icmp .eq 9, 3) := by decide +kernel
theorem d2_79 : decode method_2_code 79 = .ok (.iload_n 0, 1) := by decide +kernel
theorem d2_80 : decode method_2_code 80 = .ok (.bipush 96, 2) := by decide +kernel
theorem d2_82 : decode method_2_code 82 = .ok (.if_icmp .ne 7, 3) := by decide +kernel
theorem d2_89 : decode method_2_code 89 = .ok (.iconst 0, 1) := by decide +kernel
theorem d2_21 : decode method_2_code 21 = .ok (.iconst 1, 1) := by decide +kernel
theorem d2_22 : decode method_2_code 22 = .ok (.ireturn, 1) := by decide +kernel
theorem d2_13 : decode method_2_code 13 = .ok (.iconst 1, 1) := by decide +kernel
theorem d2_14 : decode method_2_code 14 = .ok (.ireturn, 1) := by decide +kernel
theorem own_pn0 : plainName "com/example/map50k/map50k/rules/LocNeedsPercentEncodingPinLaw" = true := by first | (simp [plainName, overriddenIn]; done) | decide +kernel
theorem own_ef2 (m : MethodId) (x0 : Int32) : entryFrame m #[(.int x0)] 1 = mkF m 0 #[.val (.int x0)] [] := by first | (simp [entryFrame, mkF, argsToLocals, Value.category]; done) | rfl
def f_2 (p0 : Int32) : Int32 := (if p0 < (0 : Int32) then (1 : Int32) else (if p0 < (128 : Int32) then (if (32 : Int32) < p0 then (if p0 = (127 : Int32) then (1 : Int32) else (if p0 = (60 : Int32) then (1 : Int32) else (if p0 = (62 : Int32) then (1 : Int32) else (if p0 = (34 : Int32) then (1 : Int32) else (if p0 = (123 : Int32) then (1 : Int32) else (if p0 = (125 : Int32) then (1 : Int32) else (if p0 = (124 : Int32) then (1 : Int32) else (if p0 = (92 : Int32) then (1 : Int32) else (if p0 = (94 : Int32) then (1 : Int32) else (if p0 = (96 : Int32) then (1 : Int32) else (0 : Int32))))))))))) else (1 : Int32)) else (1 : Int32)))
def Q2 (Z : State) (p0 : Int32) (h0 : Heap) (n0 : Nat) (v : Option Value) (h : Heap) (L : List Loc) : Prop := v = some (.int (f_2 p0)) ∧ Fr n0 L ∧ h = h0
set_option maxRecDepth 65536 in
set_option maxHeartbeats 40000000 in
theorem rm2 (l : Launch) (Z : State) (aw : Array Value) (hw : ∀ d ∈ tables_1, d.before aw Z = true) (ws : List Jvm.Cond) (p0 : Int32) (h0 : Heap) (n0 : Nat) (Z0 : n0 ≤ h0.size) :
    MetFree l (⟨"com/example/map50k/map50k/rules/LocNeedsPercentEncodingPinLaw", "expected", "(I)Z"⟩ : MethodName) (head1 (Jvm.Cond.code (⟨"com/example/map50k/map50k/rules/LocNeedsPercentEncodingPinLaw", "expected", "(I)Z"⟩ : MethodName) method_2_code 1 (some .boolean) :: ws) ({ frames := 0, cells := 0, slots := 0, locals := 0 } : Room)) (fun a U => a = #[(.int p0)] ∧ Z.Warmed39 U.vm ∧ U.heap = h0) (fun _ _ _ _ _ => True) (fun _ U o U' => ∃ v L, o = .returned v ∧ (Q2 Z p0 h0 n0) v U'.heap L ∧ FrameEnd U o U' L ({ frames := 0, cells := 0, slots := 0, locals := 0 } : Room).cells ({ frames := 0, cells := 0, slots := 0, locals := 0 } : Room).slots) := by
  refine MetFree.of_bodySF (plainFor_of_name own_pn0) hisR ?_
  intro p e s m args below meth c s₁ Bd hml0 hP hK
  obtain ⟨rfl, hZ, hh⟩ := hP
  have hx := Bd.exec
  have hby := Bd.bytes
  have hml : c.maxLocals = 1 := hml0
  have hown : s.vm.findClass "com/example/map50k/map50k/rules/LocNeedsPercentEncodingPinLaw" = some m.cls := findClass_of_methodNamed Bd.named
  have hnm := (name_of_methodNamed Bd.named Bd.method).1
  have hlk : meth.locks = false := BodyLoose.notSynchronized (by assumption)
  have X0 : Stand p l e ({ frames := 0, cells := 0, slots := 0, locals := 0 } : Room) s m #[(.int p0)] below meth c s₁ [] 0 0 := Stand.of_body Bd
  have e0 : s₁.heap = h0 := by rw [← hh, Bd.state]; rfl
  have N0 := Fr.nil n0
  show own_Done p e below s (Q2 Z p0 h0 n0) ({ frames := 0, cells := 0, slots := 0, locals := 0 } : Room).cells ({ frames := 0, cells := 0, slots := 0, locals := 0 } : Room).slots (s₁.setTop (entryFrame m #[(.int p0)] 1))
  refine own_go (U' := s₁.setTop (mkF m 0 #[.val (.int p0)] [])) (fun _ k => castTop (own_ef2 m p0) k) ?_
  refine own_go (U' := s₁.setTop (mkF m 1 #[.val (.int p0)] [(.int p0)])) (fun _ k => XS.iloadN X0.here hx rfl (hb hby d2_0) rfl k) ?_
  by_cases hc1_1 : p0 < (0 : Int32)
  · refine own_go (U' := s₁.setTop (mkF m 4 #[.val (.int p0)] [])) (fun _ k => XS.ifNo X0.here hx rfl (hb hby d2_1) rfl ((if0 _ _).trans (tlt hc1_1).2.1) k) ?_
    refine own_go (U' := s₁.setTop (mkF m 5 #[.val (.int p0)] [(.int (1 : Int32))])) (fun _ k => XS.iconst X0.here hx rfl (hb hby d2_4) k) ?_
    refine own_ret X0 (v := (some (.int (1 : Int32)))) hlk (fun h => by rw [Bd.returns] at h; cases h) (by decide) (by decide) (fun fs hr => retN X0 hx (t := .boolean) Bd.returns (by simp) (hb hby d2_5) hr) ?_
    show (Q2 Z p0 h0 n0) _ s₁.heap _
    rw [e0]
    exact ⟨by first | (simp only [f_2, if_pos hc1_1]; done) | rfl | (simp [f_2, if_pos hc1_1]; done), N0, rfl⟩
  · refine own_go (U' := s₁.setTop (mkF m 6 #[.val (.int p0)] [])) (fun _ k => XS.ifYes X0.here hx rfl (pc0 := 1) (pc' := 6) rfl (hb hby d2_1) rfl ((if0 _ _).trans (flt hc1_1).2.1) (by decide) (by decide) k) ?_
    refine own_go (U' := s₁.setTop (mkF m 7 #[.val (.int p0)] [(.int p0)])) (fun _ k => XS.iloadN X0.here hx rfl (hb hby d2_6) rfl k) ?_
    refine own_go (U' := s₁.setTop (mkF m 10 #[.val (.int p0)] [(.int (128 : Int32)), (.int p0)])) (fun _ k => XS.sipush X0.here hx rfl (hb hby d2_7) k) ?_
    by_cases hc10_2 : p0 < (128 : Int32)
    · refine own_go (U' := s₁.setTop (mkF m 15 #[.val (.int p0)] [])) (fun _ k => XS.icmpYes X0.here hx rfl (pc0 := 10) (pc' := 15) rfl (hb hby d2_10) rfl (tlt hc10_2).1 (by decide) (by decide) k) ?_
      refine own_go (U' := s₁.setTop (mkF m 16 #[.val (.int p0)] [(.int p0)])) (fun _ k => XS.iloadN X0.here hx rfl (hb hby d2_15) rfl k) ?_
      refine own_go (U' := s₁.setTop (mkF m 18 #[.val (.int p0)] [(.int (32 : Int32)), (.int p0)])) (fun _ k => XS.bipush X0.here hx rfl (hb hby d2_16) k) ?_
      by_cases hc18_3 : (32 : Int32) < p0
      · refine own_go (U' := s₁.setTop (mkF m 23 #[.val (.int p0)] [])) (fun _ k => XS.icmpYes X0.here hx rfl (pc0 := 18) (pc' := 23) rfl (hb hby d2_18) rfl (tlt hc18_3).2.2.1 (by decide) (by decide) k) ?_
        refine own_go (U' := s₁.setTop (mkF m 24 #[.val (.int p0)] [(.int p0)])) (fun _ k => XS.iloadN X0.here hx rfl (hb hby d2_23) rfl k) ?_
        refine own_go (U' := s₁.setTop (mkF m 26 #[.val (.int p0)] [(.int (127 : Int32)), (.int p0)])) (fun _ k => XS.bipush X0.here hx rfl (hb hby d2_24) k) ?_
        by_cases hc26_4 : p0 = (127 : Int32)
        · refine own_go (U' := s₁.setTop (mkF m 29 #[.val (.int p0)] [])) (fun _ k => XS.icmpNo X0.here hx rfl (hb hby d2_26) rfl (teq hc26_4).2 k) ?_
          refine own_go (U' := s₁.setTop (mkF m 30 #[.val (.int p0)] [(.int (1 : Int32))])) (fun _ k => XS.iconst X0.here hx rfl (hb hby d2_29) k) ?_
          refine own_ret X0 (v := (some (.int (1 : Int32)))) hlk (fun h => by rw [Bd.returns] at h; cases h) (by decide) (by decide) (fun fs hr => retN X0 hx (t := .boolean) Bd.returns (by simp) (hb hby d2_30) hr) ?_
          show (Q2 Z p0 h0 n0) _ s₁.heap _
          rw [e0]
          exact ⟨by first | (simp only [f_2, if_neg hc1_1, if_pos hc10_2, if_pos hc18_3, if_pos hc26_4]; done) | rfl | (simp [f_2, if_neg hc1_1, if_pos hc10_2, if_pos hc18_3, if_pos hc26_4]; done), N0, rfl⟩
        · refine own_go (U' := s₁.setTop (mkF m 31 #[.val (.int p0)] [])) (fun _ k => XS.icmpYes X0.here hx rfl (pc0 := 26) (pc' := 31) rfl (hb hby d2_26) rfl (feq hc26_4).2 (by decide) (by decide) k) ?_
          refine own_go (U' := s₁.setTop (mkF m 32 #[.val (.int p0)] [(.int p0)])) (fun _ k => XS.iloadN X0.here hx rfl (hb hby d2_31) rfl k) ?_
          refine own_go (U' := s₁.setTop (mkF m 34 #[.val (.int p0)] [(.int (60 : Int32)), (.int p0)])) (fun _ k => XS.bipush X0.here hx rfl (hb hby d2_32) k) ?_
          by_cases hc34_5 : p0 = (60 : Int32)
          · refine own_go (U' := s₁.setTop (mkF m 85 #[.val (.int p0)] [])) (fun _ k => XS.icmpYes X0.here hx rfl (pc0 := 34) (pc' := 85) rfl (hb hby d2_34) rfl (teq hc34_5).1 (by decide) (by decide) k) ?_
            refine own_go (U' := s₁.setTop (mkF m 86 #[.val (.int p0)] [(.int (1 : Int32))])) (fun _ k => XS.iconst X0.here hx rfl (hb hby d2_85) k) ?_
            refine own_go (U' := s₁.setTop (mkF m 90 #[.val (.int p0)] [(.int (1 : Int32))])) (fun _ k => XS.goto X0.here hx rfl (pc0 := 86) (pc' := 90) rfl (hb hby d2_86) (by decide) (by decide) k) ?_
            refine own_ret X0 (v := (some (.int (1 : Int32)))) hlk (fun h => by rw [Bd.returns] at h; cases h) (by decide) (by decide) (fun fs hr => retN X0 hx (t := .boolean) Bd.returns (by simp) (hb hby d2_90) hr) ?_
            show (Q2 Z p0 h0 n0) _ s₁.heap _
            rw [e0]
            exact ⟨by first | (simp only [f_2, if_neg hc1_1, if_pos hc10_2, if_pos hc18_3, if_neg hc26_4, if_pos hc34_5]; done) | rfl | (simp [f_2, if_neg hc1_1, if_pos hc10_2, if_pos hc18_3, if_neg hc26_4, if_pos hc34_5]; done), N0, rfl⟩
          · refine own_go (U' := s₁.setTop (mkF m 37 #[.val (.int p0)] [])) (fun _ k => XS.icmpNo X0.here hx rfl (hb hby d2_34) rfl (feq hc34_5).1 k) ?_
            refine own_go (U' := s₁.setTop (mkF m 38 #[.val (.int p0)] [(.int p0)])) (fun _ k => XS.iloadN X0.here hx rfl (hb hby d2_37) rfl k) ?_
            refine own_go (U' := s₁.setTop (mkF m 40 #[.val (.int p0)] [(.int (62 : Int32)), (.int p0)])) (fun _ k => XS.bipush X0.here hx rfl (hb hby d2_38) k) ?_
            by_cases hc40_6 : p0 = (62 : Int32)
            · refine own_go (U' := s₁.setTop (mkF m 85 #[.val (.int p0)] [])) (fun _ k => XS.icmpYes X0.here hx rfl (pc0 := 40) (pc' := 85) rfl (hb hby d2_40) rfl (teq hc40_6).1 (by decide) (by decide) k) ?_
              refine own_go (U' := s₁.setTop (mkF m 86 #[.val (.int p0)] [(.int (1 : Int32))])) (fun _ k => XS.iconst X0.here hx rfl (hb hby d2_85) k) ?_
              refine own_go (U' := s₁.setTop (mkF m 90 #[.val (.int p0)] [(.int (1 : Int32))])) (fun _ k => XS.goto X0.here hx rfl (pc0 := 86) (pc' := 90) rfl (hb hby d2_86) (by decide) (by decide) k) ?_
              refine own_ret X0 (v := (some (.int (1 : Int32)))) hlk (fun h => by rw [Bd.returns] at h; cases h) (by decide) (by decide) (fun fs hr => retN X0 hx (t := .boolean) Bd.returns (by simp) (hb hby d2_90) hr) ?_
              show (Q2 Z p0 h0 n0) _ s₁.heap _
              rw [e0]
              exact ⟨by first | (simp only [f_2, if_neg hc1_1, if_pos hc10_2, if_pos hc18_3, if_neg hc26_4, if_neg hc34_5, if_pos hc40_6]; done) | rfl | (simp [f_2, if_neg hc1_1, if_pos hc10_2, if_pos hc18_3, if_neg hc26_4, if_neg hc34_5, if_pos hc40_6]; done), N0, rfl⟩
            · refine own_go (U' := s₁.setTop (mkF m 43 #[.val (.int p0)] [])) (fun _ k => XS.icmpNo X0.here hx rfl (hb hby d2_40) rfl (feq hc40_6).1 k) ?_
              refine own_go (U' := s₁.setTop (mkF m 44 #[.val (.int p0)] [(.int p0)])) (fun _ k => XS.iloadN X0.here hx rfl (hb hby d2_43) rfl k) ?_
              refine own_go (U' := s₁.setTop (mkF m 46 #[.val (.int p0)] [(.int (34 : Int32)), (.int p0)])) (fun _ k => XS.bipush X0.here hx rfl (hb hby d2_44) k) ?_
              by_cases hc46_7 : p0 = (34 : Int32)
              · refine own_go (U' := s₁.setTop (mkF m 85 #[.val (.int p0)] [])) (fun _ k => XS.icmpYes X0.here hx rfl (pc0 := 46) (pc' := 85) rfl (hb hby d2_46) rfl (teq hc46_7).1 (by decide) (by decide) k) ?_
                refine own_go (U' := s₁.setTop (mkF m 86 #[.val (.int p0)] [(.int (1 : Int32))])) (fun _ k => XS.iconst X0.here hx rfl (hb hby d2_85) k) ?_
                refine own_go (U' := s₁.setTop (mkF m 90 #[.val (.int p0)] [(.int (1 : Int32))])) (fun _ k => XS.goto X0.here hx rfl (pc0 := 86) (pc' := 90) rfl (hb hby d2_86) (by decide) (by decide) k) ?_
                refine own_ret X0 (v := (some (.int (1 : Int32)))) hlk (fun h => by rw [Bd.returns] at h; cases h) (by decide) (by decide) (fun fs hr => retN X0 hx (t := .boolean) Bd.returns (by simp) (hb hby d2_90) hr) ?_
                show (Q2 Z p0 h0 n0) _ s₁.heap _
                rw [e0]
                exact ⟨by first | (simp only [f_2, if_neg hc1_1, if_pos hc10_2, if_pos hc18_3, if_neg hc26_4, if_neg hc34_5, if_neg hc40_6, if_pos hc46_7]; done) | rfl | (simp [f_2, if_neg hc1_1, if_pos hc10_2, if_pos hc18_3, if_neg hc26_4, if_neg hc34_5, if_neg hc40_6, if_pos hc46_7]; done), N0, rfl⟩
              · refine own_go (U' := s₁.setTop (mkF m 49 #[.val (.int p0)] [])) (fun _ k => XS.icmpNo X0.here hx rfl (hb hby d2_46) rfl (feq hc46_7).1 k) ?_
                refine own_go (U' := s₁.setTop (mkF m 50 #[.val (.int p0)] [(.int p0)])) (fun _ k => XS.iloadN X0.here hx rfl (hb hby d2_49) rfl k) ?_
                refine own_go (U' := s₁.setTop (mkF m 52 #[.val (.int p0)] [(.int (123 : Int32)), (.int p0)])) (fun _ k => XS.bipush X0.here hx rfl (hb hby d2_50) k) ?_
                by_cases hc52_8 : p0 = (123 : Int32)
                · refine own_go (U' := s₁.setTop (mkF m 85 #[.val (.int p0)] [])) (fun _ k => XS.icmpYes X0.here hx rfl (pc0 := 52) (pc' := 85) rfl (hb hby d2_52) rfl (teq hc52_8).1 (by decide) (by decide) k) ?_
                  refine own_go (U' := s₁.setTop (mkF m 86 #[.val (.int p0)] [(.int (1 : Int32))])) (fun _ k => XS.iconst X0.here hx rfl (hb hby d2_85) k) ?_
                  refine own_go (U' := s₁.setTop (mkF m 90 #[.val (.int p0)] [(.int (1 : Int32))])) (fun _ k => XS.goto X0.here hx rfl (pc0 := 86) (pc' := 90) rfl (hb hby d2_86) (by decide) (by decide) k) ?_
                  refine own_ret X0 (v := (some (.int (1 : Int32)))) hlk (fun h => by rw [Bd.returns] at h; cases h) (by decide) (by decide) (fun fs hr => retN X0 hx (t := .boolean) Bd.returns (by simp) (hb hby d2_90) hr) ?_
                  show (Q2 Z p0 h0 n0) _ s₁.heap _
                  rw [e0]
                  exact ⟨by first | (simp only [f_2, if_neg hc1_1, if_pos hc10_2, if_pos hc18_3, if_neg hc26_4, if_neg hc34_5, if_neg hc40_6, if_neg hc46_7, if_pos hc52_8]; done) | rfl | (simp [f_2, if_neg hc1_1, if_pos hc10_2, if_pos hc18_3, if_neg hc26_4, if_neg hc34_5, if_neg hc40_6, if_neg hc46_7, if_pos hc52_8]; done), N0, rfl⟩
                · refine own_go (U' := s₁.setTop (mkF m 55 #[.val (.int p0)] [])) (fun _ k => XS.icmpNo X0.here hx rfl (hb hby d2_52) rfl (feq hc52_8).1 k) ?_
                  refine own_go (U' := s₁.setTop (mkF m 56 #[.val (.int p0)] [(.int p0)])) (fun _ k => XS.iloadN X0.here hx rfl (hb hby d2_55) rfl k) ?_
                  refine own_go (U' := s₁.setTop (mkF m 58 #[.val (.int p0)] [(.int (125 : Int32)), (.int p0)])) (fun _ k => XS.bipush X0.here hx rfl (hb hby d2_56) k) ?_
                  by_cases hc58_9 : p0 = (125 : Int32)
                  · refine own_go (U' := s₁.setTop (mkF m 85 #[.val (.int p0)] [])) (fun _ k => XS.icmpYes X0.here hx rfl (pc0 := 58) (pc' := 85) rfl (hb hby d2_58) rfl (teq hc58_9).1 (by decide) (by decide) k) ?_
                    refine own_go (U' := s₁.setTop (mkF m 86 #[.val (.int p0)] [(.int (1 : Int32))])) (fun _ k => XS.iconst X0.here hx rfl (hb hby d2_85) k) ?_
                    refine own_go (U' := s₁.setTop (mkF m 90 #[.val (.int p0)] [(.int (1 : Int32))])) (fun _ k => XS.goto X0.here hx rfl (pc0 := 86) (pc' := 90) rfl (hb hby d2_86) (by decide) (by decide) k) ?_
                    refine own_ret X0 (v := (some (.int (1 : Int32)))) hlk (fun h => by rw [Bd.returns] at h; cases h) (by decide) (by decide) (fun fs hr => retN X0 hx (t := .boolean) Bd.returns (by simp) (hb hby d2_90) hr) ?_
                    show (Q2 Z p0 h0 n0) _ s₁.heap _
                    rw [e0]
                    exact ⟨by first | (simp only [f_2, if_neg hc1_1, if_pos hc10_2, if_pos hc18_3, if_neg hc26_4, if_neg hc34_5, if_neg hc40_6, if_neg hc46_7, if_neg hc52_8, if_pos hc58_9]; done) | rfl | (simp [f_2, if_neg hc1_1, if_pos hc10_2, if_pos hc18_3, if_neg hc26_4, if_neg hc34_5, if_neg hc40_6, if_neg hc46_7, if_neg hc52_8, if_pos hc58_9]; done), N0, rfl⟩
                  · refine own_go (U' := s₁.setTop (mkF m 61 #[.val (.int p0)] [])) (fun _ k => XS.icmpNo X0.here hx rfl (hb hby d2_58) rfl (feq hc58_9).1 k) ?_
                    refine own_go (U' := s₁.setTop (mkF m 62 #[.val (.int p0)] [(.int p0)])) (fun _ k => XS.iloadN X0.here hx rfl (hb hby d2_61) rfl k) ?_
                    refine own_go (U' := s₁.setTop (mkF m 64 #[.val (.int p0)] [(.int (124 : Int32)), (.int p0)])) (fun _ k => XS.bipush X0.here hx rfl (hb hby d2_62) k) ?_
                    by_cases hc64_10 : p0 = (124 : Int32)
                    · refine own_go (U' := s₁.setTop (mkF m 85 #[.val (.int p0)] [])) (fun _ k => XS.icmpYes X0.here hx rfl (pc0 := 64) (pc' := 85) rfl (hb hby d2_64) rfl (teq hc64_10).1 (by decide) (by decide) k) ?_
                      refine own_go (U' := s₁.setTop (mkF m 86 #[.val (.int p0)] [(.int (1 : Int32))])) (fun _ k => XS.iconst X0.here hx rfl (hb hby d2_85) k) ?_
                      refine own_go (U' := s₁.setTop (mkF m 90 #[.val (.int p0)] [(.int (1 : Int32))])) (fun _ k => XS.goto X0.here hx rfl (pc0 := 86) (pc' := 90) rfl (hb hby d2_86) (by decide) (by decide) k) ?_
                      refine own_ret X0 (v := (some (.int (1 : Int32)))) hlk (fun h => by rw [Bd.returns] at h; cases h) (by decide) (by decide) (fun fs hr => retN X0 hx (t := .boolean) Bd.returns (by simp) (hb hby d2_90) hr) ?_
                      show (Q2 Z p0 h0 n0) _ s₁.heap _
                      rw [e0]
                      exact ⟨by first | (simp only [f_2, if_neg hc1_1, if_pos hc10_2, if_pos hc18_3, if_neg hc26_4, if_neg hc34_5, if_neg hc40_6, if_neg hc46_7, if_neg hc52_8, if_neg hc58_9, if_pos hc64_10]; done) | rfl | (simp [f_2, if_neg hc1_1, if_pos hc10_2, if_pos hc18_3, if_neg hc26_4, if_neg hc34_5, if_neg hc40_6, if_neg hc46_7, if_neg hc52_8, if_neg hc58_9, if_pos hc64_10]; done), N0, rfl⟩
                    · refine own_go (U' := s₁.setTop (mkF m 67 #[.val (.int p0)] [])) (fun _ k => XS.icmpNo X0.here hx rfl (hb hby d2_64) rfl (feq hc64_10).1 k) ?_
                      refine own_go (U' := s₁.setTop (mkF m 68 #[.val (.int p0)] [(.int p0)])) (fun _ k => XS.iloadN X0.here hx rfl (hb hby d2_67) rfl k) ?_
                      refine own_go (U' := s₁.setTop (mkF m 70 #[.val (.int p0)] [(.int (92 : Int32)), (.int p0)])) (fun _ k => XS.bipush X0.here hx rfl (hb hby d2_68) k) ?_
                      by_cases hc70_11 : p0 = (92 : Int32)
                      · refine own_go (U' := s₁.setTop (mkF m 85 #[.val (.int p0)] [])) (fun _ k => XS.icmpYes X0.here hx rfl (pc0 := 70) (pc' := 85) rfl (hb hby d2_70) rfl (teq hc70_11).1 (by decide) (by decide) k) ?_
                        refine own_go (U' := s₁.setTop (mkF m 86 #[.val (.int p0)] [(.int (1 : Int32))])) (fun _ k => XS.iconst X0.here hx rfl (hb hby d2_85) k) ?_
                        refine own_go (U' := s₁.setTop (mkF m 90 #[.val (.int p0)] [(.int (1 : Int32))])) (fun _ k => XS.goto X0.here hx rfl (pc0 := 86) (pc' := 90) rfl (hb hby d2_86) (by decide) (by decide) k) ?_
                        refine own_ret X0 (v := (some (.int (1 : Int32)))) hlk (fun h => by rw [Bd.returns] at h; cases h) (by decide) (by decide) (fun fs hr => retN X0 hx (t := .boolean) Bd.returns (by simp) (hb hby d2_90) hr) ?_
                        show (Q2 Z p0 h0 n0) _ s₁.heap _
                        rw [e0]
                        exact ⟨by first | (simp only [f_2, if_neg hc1_1, if_pos hc10_2, if_pos hc18_3, if_neg hc26_4, if_neg hc34_5, if_neg hc40_6, if_neg hc46_7, if_neg hc52_8, if_neg hc58_9, if_neg hc64_10, if_pos hc70_11]; done) | rfl | (simp [f_2, if_neg hc1_1, if_pos hc10_2, if_pos hc18_3, if_neg hc26_4, if_neg hc34_5, if_neg hc40_6, if_neg hc46_7, if_neg hc52_8, if_neg hc58_9, if_neg hc64_10, if_pos hc70_11]; done), N0, rfl⟩
                      · refine own_go (U' := s₁.setTop (mkF m 73 #[.val (.int p0)] [])) (fun _ k => XS.icmpNo X0.here hx rfl (hb hby d2_70) rfl (feq hc70_11).1 k) ?_
                        refine own_go (U' := s₁.setTop (mkF m 74 #[.val (.int p0)] [(.int p0)])) (fun _ k => XS.iloadN X0.here hx rfl (hb hby d2_73) rfl k) ?_
                        refine own_go (U' := s₁.setTop (mkF m 76 #[.val (.int p0)] [(.int (94 : Int32)), (.int p0)])) (fun _ k => XS.bipush X0.here hx rfl (hb hby d2_74) k) ?_
                        by_cases hc76_12 : p0 = (94 : Int32)
                        · refine own_go (U' := s₁.setTop (mkF m 85 #[.val (.int p0)] [])) (fun _ k => XS.icmpYes X0.here hx rfl (pc0 := 76) (pc' := 85) rfl (hb hby d2_76) rfl (teq hc76_12).1 (by decide) (by decide) k) ?_
                          refine own_go (U' := s₁.setTop (mkF m 86 #[.val (.int p0)] [(.int (1 : Int32))])) (fun _ k => XS.iconst X0.here hx rfl (hb hby d2_85) k) ?_
                          refine own_go (U' := s₁.setTop (mkF m 90 #[.val (.int p0)] [(.int (1 : Int32))])) (fun _ k => XS.goto X0.here hx rfl (pc0 := 86) (pc' := 90) rfl (hb hby d2_86) (by decide) (by decide) k) ?_
                          refine own_ret X0 (v := (some (.int (1 : Int32)))) hlk (fun h => by rw [Bd.returns] at h; cases h) (by decide) (by decide) (fun fs hr => retN X0 hx (t := .boolean) Bd.returns (by simp) (hb hby d2_90) hr) ?_
                          show (Q2 Z p0 h0 n0) _ s₁.heap _
                          rw [e0]
                          exact ⟨by first | (simp only [f_2, if_neg hc1_1, if_pos hc10_2, if_pos hc18_3, if_neg hc26_4, if_neg hc34_5, if_neg hc40_6, if_neg hc46_7, if_neg hc52_8, if_neg hc58_9, if_neg hc64_10, if_neg hc70_11, if_pos hc76_12]; done) | rfl | (simp [f_2, if_neg hc1_1, if_pos hc10_2, if_pos hc18_3, if_neg hc26_4, if_neg hc34_5, if_neg hc40_6, if_neg hc46_7, if_neg hc52_8, if_neg hc58_9, if_neg hc64_10, if_neg hc70_11, if_pos hc76_12]; done), N0, rfl⟩
                        · refine own_go (U' := s₁.setTop (mkF m 79 #[.val (.int p0)] [])) (fun _ k => XS.icmpNo X0.here hx rfl (hb hby d2_76) rfl (feq hc76_12).1 k) ?_
                          refine own_go (U' := s₁.setTop (mkF m 80 #[.val (.int p0)] [(.int p0)])) (fun _ k => XS.iloadN X0.here hx rfl (hb hby d2_79) rfl k) ?_
                          refine own_go (U' := s₁.setTop (mkF m 82 #[.val (.int p0)] [(.int (96 : Int32)), (.int p0)])) (fun _ k => XS.bipush X0.here hx rfl (hb hby d2_80) k) ?_
                          by_cases hc82_13 : p0 = (96 : Int32)
                          · refine own_go (U' := s₁.setTop (mkF m 85 #[.val (.int p0)] [])) (fun _ k => XS.icmpNo X0.here hx rfl (hb hby d2_82) rfl (teq hc82_13).2 k) ?_
                            refine own_go (U' := s₁.setTop (mkF m 86 #[.val (.int p0)] [(.int (1 : Int32))])) (fun _ k => XS.iconst X0.here hx rfl (hb hby d2_85) k) ?_
                            refine own_go (U' := s₁.setTop (mkF m 90 #[.val (.int p0)] [(.int (1 : Int32))])) (fun _ k => XS.goto X0.here hx rfl (pc0 := 86) (pc' := 90) rfl (hb hby d2_86) (by decide) (by decide) k) ?_
                            refine own_ret X0 (v := (some (.int (1 : Int32)))) hlk (fun h => by rw [Bd.returns] at h; cases h) (by decide) (by decide) (fun fs hr => retN X0 hx (t := .boolean) Bd.returns (by simp) (hb hby d2_90) hr) ?_
                            show (Q2 Z p0 h0 n0) _ s₁.heap _
                            rw [e0]
                            exact ⟨by first | (simp only [f_2, if_neg hc1_1, if_pos hc10_2, if_pos hc18_3, if_neg hc26_4, if_neg hc34_5, if_neg hc40_6, if_neg hc46_7, if_neg hc52_8, if_neg hc58_9, if_neg hc64_10, if_neg hc70_11, if_neg hc76_12, if_pos hc82_13]; done) | rfl | (simp [f_2, if_neg hc1_1, if_pos hc10_2, if_pos hc18_3, if_neg hc26_4, if_neg hc34_5, if_neg hc40_6, if_neg hc46_7, if_neg hc52_8, if_neg hc58_9, if_neg hc64_10, if_neg hc70_11, if_neg hc76_12, if_pos hc82_13]; done), N0, rfl⟩
                          · refine own_go (U' := s₁.setTop (mkF m 89 #[.val (.int p0)] [])) (fun _ k => XS.icmpYes X0.here hx rfl (pc0 := 82) (pc' := 89) rfl (hb hby d2_82) rfl (feq hc82_13).2 (by decide) (by decide) k) ?_
                            refine own_go (U' := s₁.setTop (mkF m 90 #[.val (.int p0)] [(.int (0 : Int32))])) (fun _ k => XS.iconst X0.here hx rfl (hb hby d2_89) k) ?_
                            refine own_ret X0 (v := (some (.int (0 : Int32)))) hlk (fun h => by rw [Bd.returns] at h; cases h) (by decide) (by decide) (fun fs hr => retN X0 hx (t := .boolean) Bd.returns (by simp) (hb hby d2_90) hr) ?_
                            show (Q2 Z p0 h0 n0) _ s₁.heap _
                            rw [e0]
                            exact ⟨by first | (simp only [f_2, if_neg hc1_1, if_pos hc10_2, if_pos hc18_3, if_neg hc26_4, if_neg hc34_5, if_neg hc40_6, if_neg hc46_7, if_neg hc52_8, if_neg hc58_9, if_neg hc64_10, if_neg hc70_11, if_neg hc76_12, if_neg hc82_13]; done) | rfl | (simp [f_2, if_neg hc1_1, if_pos hc10_2, if_pos hc18_3, if_neg hc26_4, if_neg hc34_5, if_neg hc40_6, if_neg hc46_7, if_neg hc52_8, if_neg hc58_9, if_neg hc64_10, if_neg hc70_11, if_neg hc76_12, if_neg hc82_13]; done), N0, rfl⟩
      · refine own_go (U' := s₁.setTop (mkF m 21 #[.val (.int p0)] [])) (fun _ k => XS.icmpNo X0.here hx rfl (hb hby d2_18) rfl (flt hc18_3).2.2.1 k) ?_
        refine own_go (U' := s₁.setTop (mkF m 22 #[.val (.int p0)] [(.int (1 : Int32))])) (fun _ k => XS.iconst X0.here hx rfl (hb hby d2_21) k) ?_
        refine own_ret X0 (v := (some (.int (1 : Int32)))) hlk (fun h => by rw [Bd.returns] at h; cases h) (by decide) (by decide) (fun fs hr => retN X0 hx (t := .boolean) Bd.returns (by simp) (hb hby d2_22) hr) ?_
        show (Q2 Z p0 h0 n0) _ s₁.heap _
        rw [e0]
        exact ⟨by first | (simp only [f_2, if_neg hc1_1, if_pos hc10_2, if_neg hc18_3]; done) | rfl | (simp [f_2, if_neg hc1_1, if_pos hc10_2, if_neg hc18_3]; done), N0, rfl⟩
    · refine own_go (U' := s₁.setTop (mkF m 13 #[.val (.int p0)] [])) (fun _ k => XS.icmpNo X0.here hx rfl (hb hby d2_10) rfl (flt hc10_2).1 k) ?_
      refine own_go (U' := s₁.setTop (mkF m 14 #[.val (.int p0)] [(.int (1 : Int32))])) (fun _ k => XS.iconst X0.here hx rfl (hb hby d2_13) k) ?_
      refine own_ret X0 (v := (some (.int (1 : Int32)))) hlk (fun h => by rw [Bd.returns] at h; cases h) (by decide) (by decide) (fun fs hr => retN X0 hx (t := .boolean) Bd.returns (by simp) (hb hby d2_14) hr) ?_
      show (Q2 Z p0 h0 n0) _ s₁.heap _
      rw [e0]
      exact ⟨by first | (simp only [f_2, if_neg hc1_1, if_neg hc10_2]; done) | rfl | (simp [f_2, if_neg hc1_1, if_neg hc10_2]; done), N0, rfl⟩

theorem own_neg {c : Int32} (h : c < 0) : f_2 c = 1 := by unfold f_2; rw [if_pos h]
theorem own_big {c : Int32} (h : ¬ c < 0) (h2 : ¬ c < 128) : f_2 c = 1 := by unfold f_2; rw [if_neg h, if_neg h2]
theorem own_key : ∀ i : Fin 128, (i.1 < 33 → f_2 (Int32.ofInt i.1) = 1) ∧ (35 ≤ i.1 → i.1 < 60 → f_2 (Int32.ofInt i.1) = 0) ∧ (63 ≤ i.1 → i.1 < 92 → f_2 (Int32.ofInt i.1) = 0) ∧ (97 ≤ i.1 → i.1 < 123 → f_2 (Int32.ofInt i.1) = 0) := by decide +kernel
theorem own_ite01 {P : Prop} [Decidable P] {x y : Int32} (hx : x = 0 ∨ x = 1) (hy : y = 0 ∨ y = 1) : (if P then x else y) = 0 ∨ (if P then x else y) = 1 := by
  by_cases h : P
  · rw [if_pos h]; exact hx
  · rw [if_neg h]; exact hy
theorem own_01 (c : Int32) : f_2 c = 0 ∨ f_2 c = 1 := by
  unfold f_2
  repeat' (first | exact Or.inl rfl | exact Or.inr rfl | apply own_ite01)
theorem own_elem {args : Array Value} {s : State} {idx : List Nat} {t j : Term} {x : Addr} {cl : Cell} {k b : Int32} (ht : t.eval args s none idx s = some (.ref x)) (hj : j.eval args s none idx s = some (.int k)) (ha : s.arrayAt? x = some cl) (hn : ¬ k < 0)
    (h : (Cond.eq (.elem t j) (.int b)).value args s none s idx = some true) : cl.slots[k.toNatClampNeg]? = some (.int b) := by
  have e := elem_f ht hj ha hn
  simp only [Cond.value, e, Term.int_eval] at h
  cases hv : cl.slots[k.toNatClampNeg]? with
  | none => rw [hv] at h; simp at h
  | some v =>
    rw [hv] at h
    cases v <;> simp at h
    rw [h]
theorem own_or {args : Array Value} {s : State} {idx : List Nat} {a b : Cond} (h : (Cond.or a b).value args s none s idx = some true) (ha : a.value args s none s idx = some false) : b.value args s none s idx = some true := by
  simp only [Cond.value, ha] at h
  exact h
theorem own_small {i : Nat} (h : i < 128) : i.toInt32.toInt = i ∧ ¬ i.toInt32 < 0 ∧ i.toInt32.toNatClampNeg = i := by
  have a := len_toInt (n := i) (by omega)
  refine ⟨a, ?_, ?_⟩
  · rw [Int32.lt_iff_toInt_lt, a]
    have : (0 : Int32).toInt = 0 := by decide
    omega
  · rw [Int32.toNatClampNeg, a]; rfl
theorem own_all {args : Array Value} {s : State} {t : Term} {x : Addr} {cl : Cell} {lo hi b : Int32} (ht : ∀ idx, t.eval args s none idx s = some (.ref x)) (ha : s.arrayAt? x = some cl) (hs : cl.slots.size = 128)
    (h : (Cond.all t (.or (.lt (.index 0) (.int lo)) (.or (.le (.int hi) (.index 0)) (.eq (.elem t (.index 0)) (.int b))))).value args s none s [] = some true) (i : Nat) (h1 : lo.toInt ≤ i) (h2 : i < hi.toInt) (h3 : i < 128) : cl.slots[i]? = some (.int b) := by
  have q := Cond.all_elim (ht _) ha h i (by omega)
  obtain ⟨a1, a2, a3⟩ := own_small h3
  have hj : (Term.index 0).eval args s none [i] s = some (.int i.toInt32) := rfl
  have q2 := own_or (own_or q ((Cond.lt_ints hj (Term.int_eval _)).trans (congrArg some (decide_eq_false (by rw [Int32.lt_iff_toInt_lt, a1]; omega))))) ((Cond.le_ints (Term.int_eval _) hj).trans (congrArg some (decide_eq_false (by rw [Int32.le_iff_toInt_le, a1]; omega))))
  have q3 := own_elem (ht _) hj ha a2 q2
  rw [a3] at q3
  exact q3
theorem own_all0 {args : Array Value} {s : State} {t : Term} {x : Addr} {cl : Cell} {hi b : Int32} (ht : ∀ idx, t.eval args s none idx s = some (.ref x)) (ha : s.arrayAt? x = some cl) (hs : cl.slots.size = 128)
    (h : (Cond.all t (.or (.le (.int hi) (.index 0)) (.eq (.elem t (.index 0)) (.int b)))).value args s none s [] = some true) (i : Nat) (h2 : i < hi.toInt) (h3 : i < 128) : cl.slots[i]? = some (.int b) := by
  have q := Cond.all_elim (ht _) ha h i (by omega)
  obtain ⟨a1, a2, a3⟩ := own_small h3
  have hj : (Term.index 0).eval args s none [i] s = some (.int i.toInt32) := rfl
  have q2 := own_or q ((Cond.le_ints (Term.int_eval _) hj).trans (congrArg some (decide_eq_false (by rw [Int32.le_iff_toInt_le, a1]; omega))))
  have q3 := own_elem (ht _) hj ha a2 q2
  rw [a3] at q3
  exact q3


theorem own_len {args : Array Value} {s : State} {t : Term} {x : Addr} {cl : Cell} (ht : t.eval args s none [] s = some (.ref x)) (ha : s.arrayAt? x = some cl) (h : (Cond.eq (.length t) (.int (128 : Int32))).value args s none s [] = some true) : cl.slots.size = (128 : Int32).toNatClampNeg := by
  by_cases hl : cl.slots.size < 2 ^ 31
  · have e := len_f ht ha hl
    simp only [Cond.value, e, Term.int_eval] at h
    have h2 := of_decide_eq_true (Option.some.inj h)
    have h3 := len_toInt hl
    rw [h2] at h3
    have h4 : (128 : Int32).toInt = 128 := by decide
    have h5 : (128 : Int32).toNatClampNeg = 128 := by decide
    omega
  · have e : (Term.length t).eval args s none [] s = none := by simp [Term.eval, ht, ha, hl]
    simp [Cond.value, e] at h
theorem own_table {args : Array Value} {s : State} {t : Term} {x : Addr} {cl : Cell} (ht : ∀ idx, t.eval args s none idx s = some (.ref x)) (ha : s.arrayAt? x = some cl) (hs : cl.slots.size = 128)
    (q2 : (Cond.all t (.or (.le (.int (33 : Int32)) (.index 0)) (.eq (.elem t (.index 0)) (.int (1 : Int32))))).value args s none s [] = some true)
    (q3 : (Cond.eq (.elem t (.int (33 : Int32))) (.int (0 : Int32))).value args s none s [] = some true) (q4 : (Cond.eq (.elem t (.int (34 : Int32))) (.int (1 : Int32))).value args s none s [] = some true)
    (q5 : (Cond.all t (.or (.lt (.index 0) (.int (35 : Int32))) (.or (.le (.int (60 : Int32)) (.index 0)) (.eq (.elem t (.index 0)) (.int (0 : Int32)))))).value args s none s [] = some true)
    (q6 : (Cond.eq (.elem t (.int (60 : Int32))) (.int (1 : Int32))).value args s none s [] = some true) (q7 : (Cond.eq (.elem t (.int (61 : Int32))) (.int (0 : Int32))).value args s none s [] = some true) (q8 : (Cond.eq (.elem t (.int (62 : Int32))) (.int (1 : Int32))).value args s none s [] = some true)
    (q9 : (Cond.all t (.or (.lt (.index 0) (.int (63 : Int32))) (.or (.le (.int (92 : Int32)) (.index 0)) (.eq (.elem t (.index 0)) (.int (0 : Int32)))))).value args s none s [] = some true)
    (q10 : (Cond.eq (.elem t (.int (92 : Int32))) (.int (1 : Int32))).value args s none s [] = some true) (q11 : (Cond.eq (.elem t (.int (93 : Int32))) (.int (0 : Int32))).value args s none s [] = some true) (q12 : (Cond.eq (.elem t (.int (94 : Int32))) (.int (1 : Int32))).value args s none s [] = some true) (q13 : (Cond.eq (.elem t (.int (95 : Int32))) (.int (0 : Int32))).value args s none s [] = some true) (q14 : (Cond.eq (.elem t (.int (96 : Int32))) (.int (1 : Int32))).value args s none s [] = some true)
    (q15 : (Cond.all t (.or (.lt (.index 0) (.int (97 : Int32))) (.or (.le (.int (123 : Int32)) (.index 0)) (.eq (.elem t (.index 0)) (.int (0 : Int32)))))).value args s none s [] = some true)
    (q16 : (Cond.eq (.elem t (.int (123 : Int32))) (.int (1 : Int32))).value args s none s [] = some true) (q17 : (Cond.eq (.elem t (.int (124 : Int32))) (.int (1 : Int32))).value args s none s [] = some true) (q18 : (Cond.eq (.elem t (.int (125 : Int32))) (.int (1 : Int32))).value args s none s [] = some true) (q19 : (Cond.eq (.elem t (.int (126 : Int32))) (.int (0 : Int32))).value args s none s [] = some true) (q20 : (Cond.eq (.elem t (.int (127 : Int32))) (.int (1 : Int32))).value args s none s [] = some true) :
    ∀ j : Int32, ¬ j < 0 → j < (128 : Int32) → cl.slots[j.toNatClampNeg]? = some (.int (f_2 j)) := by
  intro j h1 h2
  have a : (0 : Int32).toInt = 0 := by decide
  have b : (128 : Int32).toInt = 128 := by decide
  rw [Int32.lt_iff_toInt_lt, a] at h1
  rw [Int32.lt_iff_toInt_lt, b] at h2
  obtain ⟨i, hi⟩ : ∃ i : Nat, (i : Int) = j.toInt := ⟨j.toInt.toNat, by omega⟩
  have hi' : i < 128 := by omega
  have ej : j = Int32.ofInt (i : Int) := by rw [hi, Int32.ofInt_toInt]
  have en : j.toNatClampNeg = i := by rw [Int32.toNatClampNeg]; omega
  obtain ⟨k1, k2, k3, k4⟩ := own_key ⟨i, hi'⟩
  rw [en, ej]
  have e33 := own_elem (ht _) (Term.int_eval _) ha (by decide) q3
  have e34 := own_elem (ht _) (Term.int_eval _) ha (by decide) q4
  have e60 := own_elem (ht _) (Term.int_eval _) ha (by decide) q6
  have e61 := own_elem (ht _) (Term.int_eval _) ha (by decide) q7
  have e62 := own_elem (ht _) (Term.int_eval _) ha (by decide) q8
  have e92 := own_elem (ht _) (Term.int_eval _) ha (by decide) q10
  have e93 := own_elem (ht _) (Term.int_eval _) ha (by decide) q11
  have e94 := own_elem (ht _) (Term.int_eval _) ha (by decide) q12
  have e95 := own_elem (ht _) (Term.int_eval _) ha (by decide) q13
  have e96 := own_elem (ht _) (Term.int_eval _) ha (by decide) q14
  have e123 := own_elem (ht _) (Term.int_eval _) ha (by decide) q16
  have e124 := own_elem (ht _) (Term.int_eval _) ha (by decide) q17
  have e125 := own_elem (ht _) (Term.int_eval _) ha (by decide) q18
  have e126 := own_elem (ht _) (Term.int_eval _) ha (by decide) q19
  have e127 := own_elem (ht _) (Term.int_eval _) ha (by decide) q20
  have c33 : (33 : Int32).toInt = 33 := by decide
  have c35 : (35 : Int32).toInt = 35 := by decide
  have c60 : (60 : Int32).toInt = 60 := by decide
  have c63 : (63 : Int32).toInt = 63 := by decide
  have c92 : (92 : Int32).toInt = 92 := by decide
  have c97 : (97 : Int32).toInt = 97 := by decide
  have c123 : (123 : Int32).toInt = 123 := by decide
  rcases (by omega : i < 33 ∨ i = 33 ∨ i = 34 ∨ (35 ≤ i ∧ i < 60) ∨ i = 60 ∨ i = 61 ∨ i = 62 ∨ (63 ≤ i ∧ i < 92) ∨ i = 92 ∨ i = 93 ∨ i = 94 ∨ i = 95 ∨ i = 96 ∨ (97 ≤ i ∧ i < 123) ∨ i = 123 ∨ i = 124 ∨ i = 125 ∨ i = 126 ∨ i = 127) with h | h | h | h | h | h | h | h | h | h | h | h | h | h | h | h | h | h | h
  · rw [k1 h]; exact own_all0 ht ha hs q2 i (by omega) hi'
  · subst h; exact e33
  · subst h; exact e34
  · rw [k2 h.1 h.2]; exact own_all ht ha hs q5 i (by omega) (by omega) hi'
  · subst h; exact e60
  · subst h; exact e61
  · subst h; exact e62
  · rw [k3 h.1 h.2]; exact own_all ht ha hs q9 i (by omega) (by omega) hi'
  · subst h; exact e92
  · subst h; exact e93
  · subst h; exact e94
  · subst h; exact e95
  · subst h; exact e96
  · rw [k4 h.1 h.2]; exact own_all ht ha hs q15 i (by omega) (by omega) hi'
  · subst h; exact e123
  · subst h; exact e124
  · subst h; exact e125
  · subst h; exact e126
  · subst h; exact e127

theorem d1_0 : decode prog_75_method_5_code 0 = .ok (.iload_n 0, 1) := by decide +kernel
theorem d1_1 : decode prog_75_method_5_code 1 = .ok (.ifCond .lt 18, 3) := by decide +kernel
theorem d1_19 : decode prog_75_method_5_code 19 = .ok (.iconst 1, 1) := by decide +kernel
theorem d1_20 : decode prog_75_method_5_code 20 = .ok (.goto 4, 3) := by decide +kernel
theorem d1_24 : decode prog_75_method_5_code 24 = .ok (.ireturn, 1) := by decide +kernel
theorem d1_4 : decode prog_75_method_5_code 4 = .ok (.iload_n 0, 1) := by decide +kernel
theorem d1_5 : decode prog_75_method_5_code 5 = .ok (.sipush 128, 3) := by decide +kernel
theorem d1_8 : decode prog_75_method_5_code 8 = .ok (.if_icmp .ge 11, 3) := by decide +kernel
theorem d1_11 : decode prog_75_method_5_code 11 = .ok (.getstatic 72, 3) := by decide +kernel
theorem d1_14 : decode prog_75_method_5_code 14 = .ok (.iload_n 0, 1) := by decide +kernel
theorem d1_15 : decode prog_75_method_5_code 15 = .ok (.baload, 1) := by decide +kernel
theorem d1_16 : decode prog_75_method_5_code 16 = .ok (.ifCond .eq 7, 3) := by decide +kernel
theorem d1_23 : decode prog_75_method_5_code 23 = .ok (.iconst 0, 1) := by decide +kernel
theorem own_pn1 : plainName "com/example/map50k/map50k/rules/Loc" = true := by first | (simp [plainName, overriddenIn]; done) | decide +kernel
theorem own_ef1 (m : MethodId) (x0 : Int32) : entryFrame m #[(.int x0)] 1 = mkF m 0 #[.val (.int x0)] [] := by first | (simp [entryFrame, mkF, argsToLocals, Value.category]; done) | rfl
def Q1 (Z : State) (p0 : Int32) (w1 : Addr) (cl : Cell) (h0 : Heap) (n0 : Nat) (v : Option Value) (h : Heap) (L : List Loc) : Prop := v = some (.int (f_2 p0)) ∧ Fr n0 L ∧ h = h0
set_option maxRecDepth 65536 in
set_option maxHeartbeats 40000000 in
theorem rm1 (l : Launch) (Z : State) (aw : Array Value) (hw : ∀ d ∈ tables_1, d.before aw Z = true) (ws : List Jvm.Cond) (p0 : Int32) (w1 : Addr) (cl : Cell) (h0 : Heap) (n0 : Nat) (Z0 : n0 ≤ h0.size) (S_A : Sta Z h0 "com/example/map50k/map50k/rules/Loc" "ASCII_NEEDS_ENCODING" "[Z" (.ref w1)) (Ar : Arr Z h0 w1 cl .boolean) (Sz : cl.slots.size = (128 : Int32).toNatClampNeg) (Hd : ∀ j : Int32, ¬ j < 0 → j < (128 : Int32) → cl.slots[j.toNatClampNeg]? = some (.int (f_2 j))) :
    MetFree l (⟨"com/example/map50k/map50k/rules/Loc", "needsPercentEncoding", "(I)Z"⟩ : MethodName) (head1 (Jvm.Cond.code (⟨"com/example/map50k/map50k/rules/Loc", "needsPercentEncoding", "(I)Z"⟩ : MethodName) prog_75_method_5_code 1 (some .boolean) :: ws) ({ frames := 0, cells := 0, slots := 0, locals := 0 } : Room)) (fun a U => a = #[(.int p0)] ∧ Z.Warmed39 U.vm ∧ U.heap = h0) (fun _ _ _ _ _ => True) (fun _ U o U' => ∃ v L, o = .returned v ∧ (Q1 Z p0 w1 cl h0 n0) v U'.heap L ∧ FrameEnd U o U' L ({ frames := 0, cells := 0, slots := 0, locals := 0 } : Room).cells ({ frames := 0, cells := 0, slots := 0, locals := 0 } : Room).slots) := by
  refine MetFree.of_bodySF (plainFor_of_name own_pn1) hisR ?_
  intro p e s m args below meth c s₁ Bd hml0 hP hK
  obtain ⟨rfl, hZ, hh⟩ := hP
  have hx := Bd.exec
  have hby := Bd.bytes
  have hml : c.maxLocals = 1 := hml0
  have hown : s.vm.findClass "com/example/map50k/map50k/rules/Loc" = some m.cls := findClass_of_methodNamed Bd.named
  have hnm := (name_of_methodNamed Bd.named Bd.method).1
  have hlk : meth.locks = false := BodyLoose.notSynchronized (by assumption)
  have X0 : Stand p l e ({ frames := 0, cells := 0, slots := 0, locals := 0 } : Room) s m #[(.int p0)] below meth c s₁ [] 0 0 := Stand.of_body Bd
  have e0 : s₁.heap = h0 := by rw [← hh, Bd.state]; rfl
  have N0 := Fr.nil n0
  show own_Done p e below s (Q1 Z p0 w1 cl h0 n0) ({ frames := 0, cells := 0, slots := 0, locals := 0 } : Room).cells ({ frames := 0, cells := 0, slots := 0, locals := 0 } : Room).slots (s₁.setTop (entryFrame m #[(.int p0)] 1))
  refine own_go (U' := s₁.setTop (mkF m 0 #[.val (.int p0)] [])) (fun _ k => castTop (own_ef1 m p0) k) ?_
  refine own_go (U' := s₁.setTop (mkF m 1 #[.val (.int p0)] [(.int p0)])) (fun _ k => XS.iloadN X0.here hx rfl (hb hby d1_0) rfl k) ?_
  by_cases hc1_14 : p0 < (0 : Int32)
  · refine own_go (U' := s₁.setTop (mkF m 19 #[.val (.int p0)] [])) (fun _ k => XS.ifYes X0.here hx rfl (pc0 := 1) (pc' := 19) rfl (hb hby d1_1) rfl ((if0 _ _).trans (tlt hc1_14).1) (by decide) (by decide) k) ?_
    refine own_go (U' := s₁.setTop (mkF m 20 #[.val (.int p0)] [(.int (1 : Int32))])) (fun _ k => XS.iconst X0.here hx rfl (hb hby d1_19) k) ?_
    refine own_go (U' := s₁.setTop (mkF m 24 #[.val (.int p0)] [(.int (1 : Int32))])) (fun _ k => XS.goto X0.here hx rfl (pc0 := 20) (pc' := 24) rfl (hb hby d1_20) (by decide) (by decide) k) ?_
    refine own_ret X0 (v := (some (.int (1 : Int32)))) hlk (fun h => by rw [Bd.returns] at h; cases h) (by decide) (by decide) (fun fs hr => retN X0 hx (t := .boolean) Bd.returns (by simp) (hb hby d1_24) hr) ?_
    show (Q1 Z p0 w1 cl h0 n0) _ s₁.heap _
    rw [e0]
    exact ⟨congrArg (fun z => some (Value.int z)) (by first | exact (own_neg (by assumption)).symm | exact (own_big (by assumption) (by assumption)).symm | exact Eq.symm (by assumption) | exact ((own_01 p0).resolve_left (by assumption)).symm), N0, rfl⟩
  · refine own_go (U' := s₁.setTop (mkF m 4 #[.val (.int p0)] [])) (fun _ k => XS.ifNo X0.here hx rfl (hb hby d1_1) rfl ((if0 _ _).trans (flt hc1_14).1) k) ?_
    refine own_go (U' := s₁.setTop (mkF m 5 #[.val (.int p0)] [(.int p0)])) (fun _ k => XS.iloadN X0.here hx rfl (hb hby d1_4) rfl k) ?_
    refine own_go (U' := s₁.setTop (mkF m 8 #[.val (.int p0)] [(.int (128 : Int32)), (.int p0)])) (fun _ k => XS.sipush X0.here hx rfl (hb hby d1_5) k) ?_
    by_cases hc8_15 : p0 < (128 : Int32)
    · refine own_go (U' := s₁.setTop (mkF m 11 #[.val (.int p0)] [])) (fun _ k => XS.icmpNo X0.here hx rfl (hb hby d1_8) rfl (tlt hc8_15).2.1 k) ?_
      obtain ⟨T16, X16, e16, st16⟩ := getS2 X0 hx hZ hown (host := "") (Or.inl (hw _ (List.mem_of_getElem? (i := 4) rfl))) Via.refl e0 S_A (g := (mkF m 11 #[.val (.int p0)] [])) rfl (hb hby d1_11)
      refine own_go (U' := T16.setTop (mkF m 14 #[.val (.int p0)] [(.ref w1)])) (fun _ k => st16 _ k) ?_
      refine own_go (U' := T16.setTop (mkF m 15 #[.val (.int p0)] [(.int p0), (.ref w1)])) (fun _ k => XS.iloadN X16.here hx rfl (hb hby d1_14) rfl k) ?_
      refine own_go (U' := T16.setTop (mkF m 16 #[.val (.int p0)] [(.int (f_2 p0))])) (fun _ k => X16.baloadBooleans hx (j := p0) (v := (.int (f_2 p0))) (by rw [e16]; exact Ar.1) (State.isArrayOf_alike hZ.alike Ar.2.1) Ar.2.2 (inb_of Sz ⟨hc1_14, hc8_15⟩) (Hd _ hc1_14 hc8_15) (g := (mkF m 15 #[.val (.int p0)] [(.int p0), (.ref w1)])) rfl rfl (hb hby d1_15) _ k) ?_
      by_cases hc16_17 : (f_2 p0) = (0 : Int32)
      · refine own_go (U' := T16.setTop (mkF m 23 #[.val (.int p0)] [])) (fun _ k => XS.ifYes X16.here hx rfl (pc0 := 16) (pc' := 23) rfl (hb hby d1_16) rfl ((if0 _ _).trans (teq hc16_17).1) (by decide) (by decide) k) ?_
        refine own_go (U' := T16.setTop (mkF m 24 #[.val (.int p0)] [(.int (0 : Int32))])) (fun _ k => XS.iconst X16.here hx rfl (hb hby d1_23) k) ?_
        refine own_ret X16 (v := (some (.int (0 : Int32)))) hlk (fun h => by rw [Bd.returns] at h; cases h) (by decide) (by decide) (fun fs hr => retN X16 hx (t := .boolean) Bd.returns (by simp) (hb hby d1_24) hr) ?_
        show (Q1 Z p0 w1 cl h0 n0) _ T16.heap _
        rw [e16]
        exact ⟨congrArg (fun z => some (Value.int z)) (by first | exact (own_neg (by assumption)).symm | exact (own_big (by assumption) (by assumption)).symm | exact Eq.symm (by assumption) | exact ((own_01 p0).resolve_left (by assumption)).symm), N0, rfl⟩
      · refine own_go (U' := T16.setTop (mkF m 19 #[.val (.int p0)] [])) (fun _ k => XS.ifNo X16.here hx rfl (hb hby d1_16) rfl ((if0 _ _).trans (feq hc16_17).1) k) ?_
        refine own_go (U' := T16.setTop (mkF m 20 #[.val (.int p0)] [(.int (1 : Int32))])) (fun _ k => XS.iconst X16.here hx rfl (hb hby d1_19) k) ?_
        refine own_go (U' := T16.setTop (mkF m 24 #[.val (.int p0)] [(.int (1 : Int32))])) (fun _ k => XS.goto X16.here hx rfl (pc0 := 20) (pc' := 24) rfl (hb hby d1_20) (by decide) (by decide) k) ?_
        refine own_ret X16 (v := (some (.int (1 : Int32)))) hlk (fun h => by rw [Bd.returns] at h; cases h) (by decide) (by decide) (fun fs hr => retN X16 hx (t := .boolean) Bd.returns (by simp) (hb hby d1_24) hr) ?_
        show (Q1 Z p0 w1 cl h0 n0) _ T16.heap _
        rw [e16]
        exact ⟨congrArg (fun z => some (Value.int z)) (by first | exact (own_neg (by assumption)).symm | exact (own_big (by assumption) (by assumption)).symm | exact Eq.symm (by assumption) | exact ((own_01 p0).resolve_left (by assumption)).symm), N0, rfl⟩
    · refine own_go (U' := s₁.setTop (mkF m 19 #[.val (.int p0)] [])) (fun _ k => XS.icmpYes X0.here hx rfl (pc0 := 8) (pc' := 19) rfl (hb hby d1_8) rfl (flt hc8_15).2.1 (by decide) (by decide) k) ?_
      refine own_go (U' := s₁.setTop (mkF m 20 #[.val (.int p0)] [(.int (1 : Int32))])) (fun _ k => XS.iconst X0.here hx rfl (hb hby d1_19) k) ?_
      refine own_go (U' := s₁.setTop (mkF m 24 #[.val (.int p0)] [(.int (1 : Int32))])) (fun _ k => XS.goto X0.here hx rfl (pc0 := 20) (pc' := 24) rfl (hb hby d1_20) (by decide) (by decide) k) ?_
      refine own_ret X0 (v := (some (.int (1 : Int32)))) hlk (fun h => by rw [Bd.returns] at h; cases h) (by decide) (by decide) (fun fs hr => retN X0 hx (t := .boolean) Bd.returns (by simp) (hb hby d1_24) hr) ?_
      show (Q1 Z p0 w1 cl h0 n0) _ s₁.heap _
      rw [e0]
      exact ⟨congrArg (fun z => some (Value.int z)) (by first | exact (own_neg (by assumption)).symm | exact (own_big (by assumption) (by assumption)).symm | exact Eq.symm (by assumption) | exact ((own_01 p0).resolve_left (by assumption)).symm), N0, rfl⟩
theorem own_pd0 : parseMethodDescriptor "(I)Z" = some ⟨[.int], some .boolean⟩ := by decide +kernel
theorem own_ef0 (m : MethodId) (x0 : Int32) (x1 : Int32) : entryFrame m #[(.int x0), (.int x1)] maxLocals = mkF m 0 #[.val (.int x0), .val (.int x1), .unset, .unset, .unset] [] := by first | (simp [entryFrame, mkF, argsToLocals, Value.category, maxLocals]; done) | rfl
def Q0 (Z : State) (p0 : Int32) (p1 : Int32) (w1 : Addr) (cl : Cell) (h0 : Heap) (n0 : Nat) (v : Option Value) (h : Heap) (L : List Loc) : Prop := v = some (.int 1) ∧ Fr n0 L
set_option maxRecDepth 65536 in
set_option maxHeartbeats 40000000 in
theorem rm0 (l : Launch) (Z : State) (aw : Array Value) (hw : ∀ d ∈ tables_1, d.before aw Z = true) (ws : List Jvm.Cond) (p0 : Int32) (p1 : Int32) (w1 : Addr) (cl : Cell) (h0 : Heap) (n0 : Nat) (Z0 : n0 ≤ h0.size) (S_A : Sta Z h0 "com/example/map50k/map50k/rules/Loc" "ASCII_NEEDS_ENCODING" "[Z" (.ref w1)) (Ar : Arr Z h0 w1 cl .boolean) (Sz : cl.slots.size = (128 : Int32).toNatClampNeg) (Hd : ∀ j : Int32, ¬ j < 0 → j < (128 : Int32) → cl.slots[j.toNatClampNeg]? = some (.int (f_2 j))) :
    MetFree l x (head1 (Jvm.Cond.code x code maxLocals ret :: ws) room_1) (fun a U => a = #[(.int p0), (.int p1)] ∧ Z.Warmed39 U.vm ∧ U.heap = h0) (fun _ _ _ _ _ => True) (fun _ U o U' => ∃ v L, o = .returned v ∧ (Q0 Z p0 p1 w1 cl h0 n0) v U'.heap L ∧ FrameEnd U o U' L room_1.cells room_1.slots) := by
  refine MetFree.of_bodySF (plainFor_of_name own_pn0) hisR ?_
  intro p e s m args below meth c s₁ Bd hml0 hP hK
  obtain ⟨rfl, hZ, hh⟩ := hP
  have hx := Bd.exec
  have hby := Bd.bytes
  have hml : c.maxLocals = 5 := hml0
  have hown : s.vm.findClass "com/example/map50k/map50k/rules/LocNeedsPercentEncodingPinLaw" = some m.cls := findClass_of_methodNamed Bd.named
  have hnm := (name_of_methodNamed Bd.named Bd.method).1
  have hlk : meth.locks = false := BodyLoose.notSynchronized (by assumption)
  have X0 : Stand p l e room_1 s m #[(.int p0), (.int p1)] below meth c s₁ [] 0 0 := Stand.of_body Bd
  have e0 : s₁.heap = h0 := by rw [← hh, Bd.state]; rfl
  have N0 := Fr.nil n0
  show own_Done p e below s (Q0 Z p0 p1 w1 cl h0 n0) room_1.cells room_1.slots (s₁.setTop (entryFrame m #[(.int p0), (.int p1)] maxLocals))
  refine own_go (U' := s₁.setTop (mkF m 0 #[.val (.int p0), .val (.int p1), .unset, .unset, .unset] [])) (fun _ k => castTop (own_ef0 m p0 p1) k) ?_
  refine own_go (U' := s₁.setTop (mkF m 1 #[.val (.int p0), .val (.int p1), .unset, .unset, .unset] [(.int p1)])) (fun _ k => XS.iloadN X0.here hx rfl (hb hby at_0) rfl k) ?_
  refine own_go (U' := s₁.setTop (mkF m 3 #[.val (.int p0), .val (.int p1), .unset, .unset, .unset] [(.int (127 : Int32)), (.int p1)])) (fun _ k => XS.bipush X0.here hx rfl (hb hby at_1) k) ?_
  refine own_go (U' := s₁.setTop (mkF m 4 #[.val (.int p0), .val (.int p1), .unset, .unset, .unset] [(.int (p1 &&& (127 : Int32)))])) (fun _ k => XS.iand X0.here hx rfl (hb hby at_3) rfl k) ?_
  generalize hy4 : (p1 &&& (127 : Int32)) = y4
  refine own_go (U' := s₁.setTop (mkF m 5 #[.val (.int p0), .val (.int p1), .val (.int y4), .unset, .unset] [])) (fun _ k => XS.istoreN X0.here hx rfl (hb hby at_4) rfl (l' := #[.val (.int p0), .val (.int p1), .val (.int y4), .unset, .unset]) rfl k) ?_
  refine own_go (U' := s₁.setTop (mkF m 6 #[.val (.int p0), .val (.int p1), .val (.int y4), .unset, .unset] [(.int p0)])) (fun _ k => XS.iloadN X0.here hx rfl (hb hby at_5) rfl k) ?_
  obtain ⟨_, _, ⟨T18, L18, k18, n18⟩, -, X18, ⟨Lc18, hQ18, l18, y18, z18⟩, st18⟩ := Jvm.LawKit.callS X0 hx (y := (⟨"com/example/map50k/map50k/rules/Loc", "needsPercentEncoding", "(I)Z"⟩ : MethodName)) hown (mvT hZ (hw _ (List.mem_of_getElem? (i := 0) rfl))) (mvT hZ (hw _ (List.mem_of_getElem? (i := 1) rfl))) (mvT hZ (hw _ (List.mem_of_getElem? (i := 2) rfl))) (mvT hZ (hw _ (List.mem_of_getElem? (i := 3) rfl))) (by decide) (backOf (W := 0) (rm1 l Z aw hw [] p0 w1 cl h0 n0 Z0 S_A (by first | assumption | decide) (by first | assumption | decide) (by first | assumption | decide)) hZ (hw _ (List.mem_of_getElem? (i := 3) rfl)) (hw _ (List.mem_of_getElem? (i := 2) rfl)) (by decide) (by decide)) (g := (mkF m 6 #[.val (.int p0), .val (.int p1), .val (.int y4), .unset, .unset] [(.int p0)])) rfl (by rw [hml]; rfl) (argsL := [(.int p0)]) (rest := []) (lenOf own_pd0 rfl) rfl (by show 2 * 0 + _ ≤ _; exact Nat.le_of_eq rfl) (hb hby at_6) (fun _ _ => ⟨rfl, e0, (by decide : 0 + 0 ≤ _), (by decide : 0 + 0 ≤ _)⟩)
  dsimp only [Pt.U, Pt.locs, Pt.cells, Pt.slots] at X18 l18 y18 z18 st18 hQ18
  subst l18 y18 z18
  obtain ⟨rfl, N18q, e18⟩ := hQ18
  have N18 := Fr.app N0 N18q
  refine own_go (U' := T18.setTop (mkF m 9 #[.val (.int p0), .val (.int p1), .val (.int y4), .unset, .unset] [(.int (f_2 p0))])) (fun _ k => st18 _ k) ?_
  refine own_go (U' := T18.setTop (mkF m 10 #[.val (.int p0), .val (.int p1), .val (.int y4), .unset, .unset] [(.int p0), (.int (f_2 p0))])) (fun _ k => XS.iloadN X18.here hx rfl (hb hby at_9) rfl k) ?_
  obtain ⟨_, _, ⟨T19, L19, k19, n19⟩, -, X19, ⟨Lc19, hQ19, l19, y19, z19⟩, st19⟩ := Jvm.LawKit.callS X18 hx (y := (⟨"com/example/map50k/map50k/rules/LocNeedsPercentEncodingPinLaw", "expected", "(I)Z"⟩ : MethodName)) hown (mvT hZ (hw _ (List.mem_of_getElem? (i := 6) rfl))) (mvT hZ (hw _ (List.mem_of_getElem? (i := 7) rfl))) (mvT hZ (hw _ (List.mem_of_getElem? (i := 8) rfl))) (mvT hZ (hw _ (List.mem_of_getElem? (i := 9) rfl))) (by decide) (backOf (W := 1) (rm2 l Z aw hw [] p0 h0 n0 Z0 ) hZ (hw _ (List.mem_of_getElem? (i := 9) rfl)) (hw _ (List.mem_of_getElem? (i := 8) rfl)) (by decide) (by decide)) (g := (mkF m 10 #[.val (.int p0), .val (.int p1), .val (.int y4), .unset, .unset] [(.int p0), (.int (f_2 p0))])) rfl (by rw [hml]; rfl) (argsL := [(.int p0)]) (rest := [(.int (f_2 p0))]) (lenOf own_pd0 rfl) rfl (by show 2 * 0 + _ ≤ _; exact Nat.le_of_eq rfl) (hb hby at_10) (fun _ _ => ⟨rfl, e18, (by decide : 0 + 0 ≤ _), (by decide : 0 + 0 ≤ _)⟩)
  dsimp only [Pt.U, Pt.locs, Pt.cells, Pt.slots] at X19 l19 y19 z19 st19 hQ19
  subst l19 y19 z19
  obtain ⟨rfl, N19q, e19⟩ := hQ19
  have N19 := Fr.app N18 N19q
  refine own_go (U' := T19.setTop (mkF m 13 #[.val (.int p0), .val (.int p1), .val (.int y4), .unset, .unset] [(.int (f_2 p0)), (.int (f_2 p0))])) (fun _ k => st19 _ k) ?_
  refine own_go (U' := T19.setTop (mkF m 16 #[.val (.int p0), .val (.int p1), .val (.int y4), .unset, .unset] [])) (fun _ k => XS.icmpNo X19.here hx rfl (hb hby at_13) rfl (teq (rfl : (f_2 p0) = (f_2 p0))).2 k) ?_
  refine own_go (U' := T19.setTop (mkF m 17 #[.val (.int p0), .val (.int p1), .val (.int y4), .unset, .unset] [(.int (1 : Int32))])) (fun _ k => XS.iconst X19.here hx rfl (hb hby at_16) k) ?_
  refine own_go (U' := T19.setTop (mkF m 21 #[.val (.int p0), .val (.int p1), .val (.int y4), .unset, .unset] [(.int (1 : Int32))])) (fun _ k => XS.goto X19.here hx rfl (pc0 := 17) (pc' := 21) rfl (hb hby at_17) (by decide) (by decide) k) ?_
  refine own_go (U' := T19.setTop (mkF m 22 #[.val (.int p0), .val (.int p1), .val (.int y4), .val (.int (1 : Int32)), .unset] [])) (fun _ k => XS.istoreN X19.here hx rfl (hb hby at_21) rfl (l' := #[.val (.int p0), .val (.int p1), .val (.int y4), .val (.int (1 : Int32)), .unset]) rfl k) ?_
  refine own_go (U' := T19.setTop (mkF m 23 #[.val (.int p0), .val (.int p1), .val (.int y4), .val (.int (1 : Int32)), .unset] [(.int y4)])) (fun _ k => XS.iloadN X19.here hx rfl (hb hby at_22) rfl k) ?_
  obtain ⟨_, _, ⟨T20, L20, k20, n20⟩, -, X20, ⟨Lc20, hQ20, l20, y20, z20⟩, st20⟩ := Jvm.LawKit.callS X19 hx (y := (⟨"com/example/map50k/map50k/rules/Loc", "needsPercentEncoding", "(I)Z"⟩ : MethodName)) hown (mvT hZ (hw _ (List.mem_of_getElem? (i := 0) rfl))) (mvT hZ (hw _ (List.mem_of_getElem? (i := 1) rfl))) (mvT hZ (hw _ (List.mem_of_getElem? (i := 2) rfl))) (mvT hZ (hw _ (List.mem_of_getElem? (i := 3) rfl))) (by decide) (backOf (W := 0) (rm1 l Z aw hw [] y4 w1 cl h0 n0 Z0 S_A (by first | assumption | decide) (by first | assumption | decide) (by first | assumption | decide)) hZ (hw _ (List.mem_of_getElem? (i := 3) rfl)) (hw _ (List.mem_of_getElem? (i := 2) rfl)) (by decide) (by decide)) (g := (mkF m 23 #[.val (.int p0), .val (.int p1), .val (.int y4), .val (.int (1 : Int32)), .unset] [(.int y4)])) rfl (by rw [hml]; rfl) (argsL := [(.int y4)]) (rest := []) (lenOf own_pd0 rfl) rfl (by show 2 * 0 + _ ≤ _; exact Nat.le_of_eq rfl) (hb hby at_23) (fun _ _ => ⟨rfl, e19, (by decide : 0 + 0 ≤ _), (by decide : 0 + 0 ≤ _)⟩)
  dsimp only [Pt.U, Pt.locs, Pt.cells, Pt.slots] at X20 l20 y20 z20 st20 hQ20
  subst l20 y20 z20
  obtain ⟨rfl, N20q, e20⟩ := hQ20
  have N20 := Fr.app N19 N20q
  refine own_go (U' := T20.setTop (mkF m 26 #[.val (.int p0), .val (.int p1), .val (.int y4), .val (.int (1 : Int32)), .unset] [(.int (f_2 y4))])) (fun _ k => st20 _ k) ?_
  refine own_go (U' := T20.setTop (mkF m 27 #[.val (.int p0), .val (.int p1), .val (.int y4), .val (.int (1 : Int32)), .unset] [(.int y4), (.int (f_2 y4))])) (fun _ k => XS.iloadN X20.here hx rfl (hb hby at_26) rfl k) ?_
  obtain ⟨_, _, ⟨T21, L21, k21, n21⟩, -, X21, ⟨Lc21, hQ21, l21, y21, z21⟩, st21⟩ := Jvm.LawKit.callS X20 hx (y := (⟨"com/example/map50k/map50k/rules/LocNeedsPercentEncodingPinLaw", "expected", "(I)Z"⟩ : MethodName)) hown (mvT hZ (hw _ (List.mem_of_getElem? (i := 6) rfl))) (mvT hZ (hw _ (List.mem_of_getElem? (i := 7) rfl))) (mvT hZ (hw _ (List.mem_of_getElem? (i := 8) rfl))) (mvT hZ (hw _ (List.mem_of_getElem? (i := 9) rfl))) (by decide) (backOf (W := 1) (rm2 l Z aw hw [] y4 h0 n0 Z0 ) hZ (hw _ (List.mem_of_getElem? (i := 9) rfl)) (hw _ (List.mem_of_getElem? (i := 8) rfl)) (by decide) (by decide)) (g := (mkF m 27 #[.val (.int p0), .val (.int p1), .val (.int y4), .val (.int (1 : Int32)), .unset] [(.int y4), (.int (f_2 y4))])) rfl (by rw [hml]; rfl) (argsL := [(.int y4)]) (rest := [(.int (f_2 y4))]) (lenOf own_pd0 rfl) rfl (by show 2 * 0 + _ ≤ _; exact Nat.le_of_eq rfl) (hb hby at_27) (fun _ _ => ⟨rfl, e20, (by decide : 0 + 0 ≤ _), (by decide : 0 + 0 ≤ _)⟩)
  dsimp only [Pt.U, Pt.locs, Pt.cells, Pt.slots] at X21 l21 y21 z21 st21 hQ21
  subst l21 y21 z21
  obtain ⟨rfl, N21q, e21⟩ := hQ21
  have N21 := Fr.app N20 N21q
  refine own_go (U' := T21.setTop (mkF m 30 #[.val (.int p0), .val (.int p1), .val (.int y4), .val (.int (1 : Int32)), .unset] [(.int (f_2 y4)), (.int (f_2 y4))])) (fun _ k => st21 _ k) ?_
  refine own_go (U' := T21.setTop (mkF m 33 #[.val (.int p0), .val (.int p1), .val (.int y4), .val (.int (1 : Int32)), .unset] [])) (fun _ k => XS.icmpNo X21.here hx rfl (hb hby at_30) rfl (teq (rfl : (f_2 y4) = (f_2 y4))).2 k) ?_
  refine own_go (U' := T21.setTop (mkF m 34 #[.val (.int p0), .val (.int p1), .val (.int y4), .val (.int (1 : Int32)), .unset] [(.int (1 : Int32))])) (fun _ k => XS.iconst X21.here hx rfl (hb hby at_33) k) ?_
  refine own_go (U' := T21.setTop (mkF m 38 #[.val (.int p0), .val (.int p1), .val (.int y4), .val (.int (1 : Int32)), .unset] [(.int (1 : Int32))])) (fun _ k => XS.goto X21.here hx rfl (pc0 := 34) (pc' := 38) rfl (hb hby at_34) (by decide) (by decide) k) ?_
  refine own_go (U' := T21.setTop (mkF m 40 #[.val (.int p0), .val (.int p1), .val (.int y4), .val (.int (1 : Int32)), .val (.int (1 : Int32))] [])) (fun _ k => XS.istore X21.here hx rfl (hb hby at_38) rfl (l' := #[.val (.int p0), .val (.int p1), .val (.int y4), .val (.int (1 : Int32)), .val (.int (1 : Int32))]) rfl k) ?_
  refine own_go (U' := T21.setTop (mkF m 41 #[.val (.int p0), .val (.int p1), .val (.int y4), .val (.int (1 : Int32)), .val (.int (1 : Int32))] [(.int (1 : Int32))])) (fun _ k => XS.iloadN X21.here hx rfl (hb hby at_40) rfl k) ?_
  refine own_go (U' := T21.setTop (mkF m 44 #[.val (.int p0), .val (.int p1), .val (.int y4), .val (.int (1 : Int32)), .val (.int (1 : Int32))] [])) (fun _ k => XS.ifNo X21.here hx rfl (hb hby at_41) rfl ((if0 _ _).trans (feq (by decide : ¬ ((1 : Int32) = (0 : Int32)))).1) k) ?_
  refine own_go (U' := T21.setTop (mkF m 46 #[.val (.int p0), .val (.int p1), .val (.int y4), .val (.int (1 : Int32)), .val (.int (1 : Int32))] [(.int (1 : Int32))])) (fun _ k => XS.iload X21.here hx rfl (hb hby at_44) rfl k) ?_
  refine own_go (U' := T21.setTop (mkF m 49 #[.val (.int p0), .val (.int p1), .val (.int y4), .val (.int (1 : Int32)), .val (.int (1 : Int32))] [])) (fun _ k => XS.ifNo X21.here hx rfl (hb hby at_46) rfl ((if0 _ _).trans (feq (by decide : ¬ ((1 : Int32) = (0 : Int32)))).1) k) ?_
  refine own_go (U' := T21.setTop (mkF m 50 #[.val (.int p0), .val (.int p1), .val (.int y4), .val (.int (1 : Int32)), .val (.int (1 : Int32))] [(.int (1 : Int32))])) (fun _ k => XS.iconst X21.here hx rfl (hb hby at_49) k) ?_
  refine own_go (U' := T21.setTop (mkF m 54 #[.val (.int p0), .val (.int p1), .val (.int y4), .val (.int (1 : Int32)), .val (.int (1 : Int32))] [(.int (1 : Int32))])) (fun _ k => XS.goto X21.here hx rfl (pc0 := 50) (pc' := 54) rfl (hb hby at_50) (by decide) (by decide) k) ?_
  refine own_ret X21 (v := (some (.int (1 : Int32)))) hlk (fun h => by rw [Bd.returns] at h; cases h) (by decide) (by decide) (fun fs hr => retN X21 hx (t := .boolean) Bd.returns (by simp) (hb hby at_54) hr) ?_
  show (Q0 Z p0 p1 w1 cl h0 n0) _ T21.heap _
  rw [e21]
  exact ⟨rfl, N21⟩
set_option maxRecDepth 65536 in
set_option maxHeartbeats 40000000 in
theorem comes_1 {Post : Tables → Env → Array Value → State → Outcome → State → Prop} (hpost : ∀ tb e args s v u, (limb_1_1.after args s (.returned v) u = true ∧ limb_1_2.after args s (.returned v) u = true ∧ True) → FrameEnd s (.returned v) u (Jvm.fieldLocs frame_1_writes args s ++ Jvm.arrayLocs frame_1_arrays args s ++ Jvm.staticLocs frame_1_statics s) 0 0 → Post tb e args s (.returned v) u) :
    ArmFor flags0 classFile x code maxLocals ret World_1 tables_1 room_1 Calls_1 rest_1 Pre_1 Post := by
  intro l hfl _ _ p e ha hc hk s m args below hf hA hF happ hP
  obtain ⟨hcalls, hrest, hpre⟩ := hP
  obtain ⟨-, -, -, hnamed, -, -, -, hat⟩ := (Spec.applies_iff hf).mp happ
  obtain ⟨hg, hn⟩ := and_e (Cond.before_iff.mp (show (Jvm.Cond.and given_1 narrow_1).before args s = true from hpre))
  obtain ⟨hcnt, hg0⟩ := and_e hg
  obtain ⟨hv0, hg1⟩ := and_e hg0
  have hv1 := hg1
  obtain ⟨w0, w1, rfl⟩ : ∃ w0 w1 : Value, args = #[w0, w1] := by
    have hs : args.size = 2 := by simpa [Cond.value, given_1] using hcnt
    obtain ⟨L⟩ := args
    match L, hs with
    | [w0, w1], _ => exact ⟨w0, w1, rfl⟩
  have hw := fun d (hd : d ∈ tables_1) => atoms_spec (ws := Jvm.Cond.code x code maxLocals ret :: tables_1) hat d (List.mem_cons_of_mem _ hd)
  have hfit : Fit s := fun {y c} hc i hi => by
    obtain ⟨ha, rfl⟩ := Array.getElem?_eq_some_iff.mp hc
    have q := List.all_eq_true.mp ((Array.all_eq_true_iff_forall_mem.mp hF) _ (Array.getElem_mem ha)) i (List.mem_range.mpr hi)
    simpa [Array.getElem?_eq_getElem hi] using q
  obtain ⟨i0, ei0⟩ := is_v hv0
  obtain rfl : w0 = (.int i0) := Option.some.inj ei0
  obtain ⟨i1, ei1⟩ := is_v hv1
  obtain rfl : w1 = (.int i1) := Option.some.inj ei1
  obtain ⟨q0, qr⟩ := and_e hn
  obtain ⟨q1, qr⟩ := and_e qr
  obtain ⟨q2, qr⟩ := and_e qr
  obtain ⟨q3, qr⟩ := and_e qr
  obtain ⟨q4, qr⟩ := and_e qr
  obtain ⟨q5, qr⟩ := and_e qr
  obtain ⟨q6, qr⟩ := and_e qr
  obtain ⟨q7, qr⟩ := and_e qr
  obtain ⟨q8, qr⟩ := and_e qr
  obtain ⟨q9, qr⟩ := and_e qr
  obtain ⟨q10, qr⟩ := and_e qr
  obtain ⟨q11, qr⟩ := and_e qr
  obtain ⟨q12, qr⟩ := and_e qr
  obtain ⟨q13, qr⟩ := and_e qr
  obtain ⟨q14, qr⟩ := and_e qr
  obtain ⟨q15, qr⟩ := and_e qr
  obtain ⟨q16, qr⟩ := and_e qr
  obtain ⟨q17, qr⟩ := and_e qr
  obtain ⟨q18, qr⟩ := and_e qr
  obtain ⟨q19, q20⟩ := and_e qr
  obtain ⟨w1, ew⟩ := arr_v q0
  obtain ⟨cl, Ar⟩ := Arr.start ew q0
  have S_A := Sta.start ew (Or.inr ⟨hw _ (List.mem_of_getElem? (i := 2) rfl), hw _ (List.mem_of_getElem? (i := 5) rfl)⟩)
  have hat := Arr.fin (Z := s) (U := s) (Vm.Alike.refl _) Ar
  have Sz : cl.slots.size = (128 : Int32).toNatClampNeg := own_len ew hat q1
  have Sz' : cl.slots.size = 128 := Sz
  have Hd := own_table (fun _ => ew) hat Sz' q2 q3 q4 q5 q6 q7 q8 q9 q10 q11 q12 q13 q14 q15 q16 q17 q18 q19 q20
  obtain ⟨n, o, h1, h2, h3, _, L, rfl, ⟨rfl, N⟩, hq⟩ := rm0 l s _ hw tables_1 i0 i1 w1 cl s.heap s.heap.size (Nat.le_refl _) S_A Ar Sz Hd p e ha hc hk s m _ below hf ((Spec.applies_iff_loose hf).mp happ).1 ⟨rfl, State.Warmed39.refl s, rfl⟩ trivial
  refine ⟨n, _, h1, h2, h3, hpost _ _ _ _ _ _ ⟨Cond.after_iff.mpr rfl, Cond.after_iff.mpr (eq_i res_at (Term.int_eval (1)) rfl), trivial⟩ ⟨hq.1, hq.2.1, (hq.2.2.sift fun y hy => Or.inr (N y hy)).mono (by decide) (by decide)⟩⟩
theorem main_1_1 : Claimed_1_1 := comes_1 fun _ _ _ _ _ _ h hF => ⟨h.1, hF⟩
theorem main_1_2 : Claimed_1_2 := comes_1 fun _ _ _ _ _ _ h hF => ⟨h.2.1, hF⟩
end Jvm.Pilot.@@N@@
namespace Jvm.Pilot.@@N@@
open Jvm Jvm.ClassFile Sem Op Lib Jvm.Free Jvm.Stand Jvm.Pilot.@@N@@.Jvm.D
/-! MADE BY PROGRAM (witnessworld.py) out of the Statement's table words and the real class files: 11 classes; the members and pool entries that the words name. The judged class is class 1, her method 2. -/
namespace start1
open Jvm.ClassFile
def u (s : String) : CpInfo := .utf8 (stringToUtf16 s)
/-- a pool by its gaps: so many unusable entries, then the entry; so many at the end -/
def gap : Nat → List CpInfo → List CpInfo
  | 0, r => r
  | n + 1, r => .unusable :: gap n r
def poolList (es : List (Nat × CpInfo)) (last : Nat) : List CpInfo := es.foldr (fun e r => gap e.1 (e.2 :: r)) (gap last [])
def pool (es : List (Nat × CpInfo)) (last : Nat) : Array CpInfo := ⟨poolList es last⟩
def fileOf (pool : Array CpInfo) (this : Nat) (attrs : Array Attribute := #[]) (ms : Array MethodInfo := #[]) (fl : Nat := 33) (sup : Nat := 0) (ifs : Array Nat := #[]) (fds : Array FieldInfo := #[]) : ClassFile where
  minorVersion := 0
  majorVersion := 65
  constantPool := pool
  accessFlags := fl
  thisClass := this
  superClass := sup
  interfaces := ifs
  fields := fds
  methods := ms
  attributes := attrs
def plain (name : String) (sup : Option ClassId) : Class where
  name := name
  kind := .ordinary
  loader := none
  accessFlags := 33
  super := sup
  interfaces := #[]
  cf := none
  fields := #[]
  methods := #[]
  instanceTypes := #[]
  staticTypes := #[]
  resolved := #[]
  callSites := []
  init := .initialized
  statics := none
  mirror := none

def pool0 : Array CpInfo := pool [(5, u "<init>"), (0, u "()V"), (1, .class_ 10), (1, u "java/lang/Object")] 113

def k0m0 : Method := { name := "<init>", desc := "()V", sig := { parameters := [], returnType := none }, accessFlags := 1, code := none }
/-- java/lang/Object -/
def k0 : Class := { plain "java/lang/Object" none with
  accessFlags := 33
  interfaces := #[]
  cf := some (fileOf pool0 8 #[] #[{ accessFlags := 1, nameIndex := 5, descriptorIndex := 6, attributes := #[] }] 33 0 #[] #[])
  fields := #[]
  methods := #[k0m0]
  instanceTypes := #[]
  staticTypes := #[]
  resolved := Array.replicate 124 none
  statics := none }

def pool1 : Array CpInfo := pool [(2, .class_ 4), (1, u "java/lang/Object"), (0, u "<init>"), (0, u "()V"), (0, .methodref 8 9), (0, .class_ 10), (0, .nameAndType 11 12), (0, u "com/example/map50k/map50k/rules/Loc"), (0, u "needsPercentEncoding"), (0, u "(I)Z"), (0, .methodref 14 15), (0, .class_ 16), (0, .nameAndType 17 12), (0, u "com/example/map50k/map50k/rules/LocNeedsPercentEncodingPinLaw"), (0, u "expected"), (3, u "law"), (0, u "(II)Z")] 2

def k1m0 : Method := { name := "<init>", desc := "()V", sig := { parameters := [], returnType := none }, accessFlags := 2, code := none }
def k1c1 : Code := { maxStack := 2, maxLocals := 1, code := method_2_code, exceptionTable := #[], attributes := #[] }
def k1m1 : Method := { name := "expected", desc := "(I)Z", sig := { parameters := [.int], returnType := some .boolean }, accessFlags := 10, code := some k1c1 }
def k1c2 : Code := { maxStack := 2, maxLocals := 5, code := code, exceptionTable := #[], attributes := #[] }
def k1m2 : Method := { name := "law", desc := "(II)Z", sig := { parameters := [.int, .int], returnType := some .boolean }, accessFlags := 9, code := some k1c2 }
/-- com/example/map50k/map50k/rules/LocNeedsPercentEncodingPinLaw -/
def k1 : Class := { plain "com/example/map50k/map50k/rules/LocNeedsPercentEncodingPinLaw" (some 0) with
  accessFlags := 49
  interfaces := #[]
  cf := some (fileOf pool1 14 #[] #[{ accessFlags := 2, nameIndex := 5, descriptorIndex := 6, attributes := #[] }, { accessFlags := 10, nameIndex := 17, descriptorIndex := 12, attributes := #[] }, { accessFlags := 9, nameIndex := 21, descriptorIndex := 22, attributes := #[] }] 49 2 #[] #[])
  fields := #[]
  methods := #[k1m0, k1m1, k1m2]
  instanceTypes := #[]
  staticTypes := #[]
  resolved := Array.replicate 25 none
  statics := none }

def pool2 : Array CpInfo := pool [(4, .class_ 6), (1, u "java/lang/Object"), (0, u "<init>"), (0, u "()V"), (14, .class_ 24), (0, u "com/example/map50k/map50k/rules/Loc"), (38, u "(I)Z"), (8, .fieldref 23 73), (0, .nameAndType 74 75), (0, u "ASCII_NEEDS_ENCODING"), (0, u "[Z"), (0, .class_ 77), (0, u "com/example/map50k/map50k/rules/Loc$Places"), (41, u "HEX_DIGITS"), (0, u "[C"), (18, .class_ 141), (1, u "com/example/map50k/map50k/rules/Loc$SchemaFault"), (6, .class_ 150), (1, u "com/example/map50k/map50k/rules/Loc$Authority"), (4, u "I"), (34, u "KEPT_ANYWHERE"), (13, u "LENGTH_LIMIT"), (2, u "SCHEMA_MIN_LENGTH"), (1, u "SCHEMA_MAX_PORT"), (0, u "UNSAFE_ASCII"), (0, u "Ljava/lang/String;"), (0, u "PLACED_ASCII"), (6, u "needsPercentEncoding")] 37

def k2m0 : Method := { name := "<init>", desc := "()V", sig := { parameters := [], returnType := none }, accessFlags := 2, code := none }
def k2c1 : Code := { maxStack := 2, maxLocals := 1, code := prog_75_method_5_code, exceptionTable := #[], attributes := #[] }
def k2m1 : Method := { name := "needsPercentEncoding", desc := "(I)Z", sig := { parameters := [.int], returnType := some .boolean }, accessFlags := 9, code := some k2c1 }
/-- com/example/map50k/map50k/rules/Loc -/
def k2 : Class := { plain "com/example/map50k/map50k/rules/Loc" (some 0) with
  accessFlags := 49
  interfaces := #[]
  cf := some (fileOf pool2 23 #[.nestMembers #[148, 76, 139]] #[{ accessFlags := 2, nameIndex := 7, descriptorIndex := 8, attributes := #[] }, { accessFlags := 9, nameIndex := 219, descriptorIndex := 63, attributes := #[] }] 49 4 #[] #[{ accessFlags := 25, nameIndex := 204, descriptorIndex := 155, attributes := #[] }, { accessFlags := 25, nameIndex := 207, descriptorIndex := 155, attributes := #[] }, { accessFlags := 25, nameIndex := 209, descriptorIndex := 155, attributes := #[] }, { accessFlags := 26, nameIndex := 210, descriptorIndex := 211, attributes := #[] }, { accessFlags := 26, nameIndex := 74, descriptorIndex := 75, attributes := #[] }, { accessFlags := 26, nameIndex := 212, descriptorIndex := 211, attributes := #[] }, { accessFlags := 26, nameIndex := 190, descriptorIndex := 75, attributes := #[] }, { accessFlags := 26, nameIndex := 119, descriptorIndex := 120, attributes := #[] }])
  fields := #[{ name := "LENGTH_LIMIT", type := .int, accessFlags := 25, slot := 0, constantValue := 0 }, { name := "SCHEMA_MIN_LENGTH", type := .int, accessFlags := 25, slot := 1, constantValue := 0 }, { name := "SCHEMA_MAX_PORT", type := .int, accessFlags := 25, slot := 2, constantValue := 0 }, { name := "UNSAFE_ASCII", type := (.object "java/lang/String"), accessFlags := 26, slot := 3, constantValue := 0 }, { name := "ASCII_NEEDS_ENCODING", type := (.array .boolean), accessFlags := 26, slot := 4, constantValue := 0 }, { name := "PLACED_ASCII", type := (.object "java/lang/String"), accessFlags := 26, slot := 5, constantValue := 0 }, { name := "KEPT_ANYWHERE", type := (.array .boolean), accessFlags := 26, slot := 6, constantValue := 0 }, { name := "HEX_DIGITS", type := (.array .char), accessFlags := 26, slot := 7, constantValue := 0 }]
  methods := #[k2m0, k2m1]
  instanceTypes := #[]
  staticTypes := #[.int, .int, .int, (.object "java/lang/String"), (.array .boolean), (.object "java/lang/String"), (.array .boolean), (.array .char)]
  resolved := Array.replicate 257 none
  statics := some 0 }

def pool3 : Array CpInfo := pool [(1, u "java/lang/Cloneable"), (0, .class_ 1), (0, u "java/lang/Object"), (0, .class_ 3)] 3

/-- java/lang/Cloneable -/
def k3 : Class := { plain "java/lang/Cloneable" (some 0) with
  accessFlags := 1537
  interfaces := #[]
  cf := some (fileOf pool3 2 #[] #[] 1537 4 #[] #[])
  fields := #[]
  methods := #[]
  instanceTypes := #[]
  staticTypes := #[]
  resolved := Array.replicate 8 none
  statics := none }

def pool4 : Array CpInfo := pool [(1, u "java/io/Serializable"), (0, .class_ 1), (0, u "java/lang/Object"), (0, .class_ 3)] 3

/-- java/io/Serializable -/
def k4 : Class := { plain "java/io/Serializable" (some 0) with
  accessFlags := 1537
  interfaces := #[]
  cf := some (fileOf pool4 2 #[] #[] 1537 4 #[] #[])
  fields := #[]
  methods := #[]
  instanceTypes := #[]
  staticTypes := #[]
  resolved := Array.replicate 8 none
  statics := none }

/-- the primitive boolean -/
def k5 : Class := { plain "boolean" none with kind := .primitive 'Z', accessFlags := 0x411 }
/-- [Z -/
def k6 : Class := { plain "[Z" (some 0) with kind := .array 5 .boolean, interfaces := #[3, 4], accessFlags := 1041 }

/-- the primitive byte -/
def k7 : Class := { plain "byte" none with kind := .primitive 'B', accessFlags := 0x411 }
/-- [B -/
def k8 : Class := { plain "[B" (some 0) with kind := .array 7 .byte, interfaces := #[3, 4], accessFlags := 1041 }

/-- the primitive int -/
def k9 : Class := { plain "int" none with kind := .primitive 'I', accessFlags := 0x411 }
/-- [I -/
def k10 : Class := { plain "[I" (some 0) with kind := .array 9 .int, interfaces := #[3, 4], accessFlags := 1041 }

def heap : Heap := #[{ cls := 2, slots := #[.int 0, .int 0, .int 0, .null, .ref 1, .null, .null, .null], vm := .statics 2 },
  { cls := 6, slots := #[.int 1, .int 1, .int 1, .int 1, .int 1, .int 1, .int 1, .int 1, .int 1, .int 1, .int 1, .int 1, .int 1, .int 1, .int 1, .int 1, .int 1, .int 1, .int 1, .int 1, .int 1, .int 1, .int 1, .int 1, .int 1, .int 1, .int 1, .int 1, .int 1, .int 1, .int 1, .int 1, .int 1, .int 0, .int 1, .int 0, .int 0, .int 0, .int 0, .int 0, .int 0, .int 0, .int 0, .int 0, .int 0, .int 0, .int 0, .int 0, .int 0, .int 0, .int 0, .int 0, .int 0, .int 0, .int 0, .int 0, .int 0, .int 0, .int 0, .int 0, .int 1, .int 0, .int 1, .int 0, .int 0, .int 0, .int 0, .int 0, .int 0, .int 0, .int 0, .int 0, .int 0, .int 0, .int 0, .int 0, .int 0, .int 0, .int 0, .int 0, .int 0, .int 0, .int 0, .int 0, .int 0, .int 0, .int 0, .int 0, .int 0, .int 0, .int 0, .int 0, .int 1, .int 0, .int 1, .int 0, .int 1, .int 0, .int 0, .int 0, .int 0, .int 0, .int 0, .int 0, .int 0, .int 0, .int 0, .int 0, .int 0, .int 0, .int 0, .int 0, .int 0, .int 0, .int 0, .int 0, .int 0, .int 0, .int 0, .int 0, .int 0, .int 0, .int 0, .int 1, .int 1, .int 1, .int 0, .int 1], vm := .none }]
def classes : Array Class := #[k0, k1, k2, k3, k4, k5, k6, k7, k8, k9, k10]
def interned : List (Array UInt16 × Addr) := []
def slotsUsed : Nat := 136
def theMethod : MethodId := ⟨1, 2⟩
def args0 : Array Value := #[.int 5, .int 2]
def aboutOver (below : List Frame) : State where
  vm := { classes := classes, interned := interned.toArray }
  heap := heap
  slotsUsed := slotsUsed
  threads := #[{ frames := .invoking theMethod args0 :: below }]
def below0 : List Frame := [.native { method := ⟨0, 0⟩, args := #[] }]
def about1 : State := aboutOver below0
def p0 : Program := .bare "" "" ""
def e0 : Env := launch0.env 0 0 0
theorem w_frames : about1.frames = Frame.invoking theMethod args0 :: below0 := rfl
set_option maxRecDepth 65536 in
theorem w_args : argsFit about1.vm theMethod args0 = true := by decide +kernel
set_option maxRecDepth 65536 in
theorem w_heap : heapFits about1 = true := by decide +kernel
set_option maxRecDepth 65536 in
theorem w_runnable : about1.curStatus? = some .runnable := by decide +kernel
set_option maxRecDepth 65536 in
theorem w_alone : about1.alone = true := by decide +kernel
set_option maxRecDepth 65536 in
theorem w_named : about1.methodNamed? x = some theMethod := by decide +kernel
set_option maxRecDepth 65536 in
theorem w_hears : about1.hears theMethod below0 = true := by decide +kernel
set_option maxRecDepth 65536 in
theorem w_ripe : about1.ripe theMethod args0 below0 = true := by decide +kernel
theorem w_running : about1.status = .running := rfl
set_option maxRecDepth 65536 in
theorem w_room : about1.hasRoom e0.platform room_1 = true :=
  launch0.hasRoom_least _ room_1 (by decide +kernel) (by decide +kernel) (by decide +kernel) (by decide +kernel) (by decide +kernel) (by decide +kernel)
theorem allAtoms_all (ts : List Jvm.Cond) (a : Array Jvm.Value) (st : Jvm.State) : (allAtoms ts).before a st = ts.all (fun c => c.before a st) := by
  induction ts with
  | nil => rfl
  | cons c t ih =>
    show (Jvm.Cond.and c (allAtoms t)).before a st = _
    rw [Jvm.Cond.before_and, ih, List.all_cons]
def words1 : List Jvm.Cond := Jvm.Cond.code x code maxLocals ret :: tables_1
/-- a 'code' word, met by the world's own term for the bytes: nothing is compared byte by byte -/
theorem code_word {y : MethodName} {bytes : ByteArray} {mx : Nat} {rt : Option FieldType} {a : Array Value} {s : State} {m : MethodId} {meth : Method} {c : Code} (h1 : s.methodNamed? y = some m) (h2 : s.vm.method? m = some meth) (h3 : meth.code = some c) (h4 : c.code = bytes)
    (h5 : (c.maxLocals == mx && c.exceptionTable.isEmpty && decide (c.maxStack ≤ mostOperands) && decide (meth.sig.returnType = rt) && !meth.locks && decide (parseMethodDescriptor y.desc = some meth.sig)) = true) : (Jvm.Cond.code y bytes mx rt).before a s = true := by
  simp only [Bool.and_eq_true, beq_iff_eq, Bool.not_eq_true', decide_eq_true_eq] at h5
  obtain ⟨⟨⟨⟨⟨g1, g2⟩, g3⟩, g4⟩, g5⟩, g6⟩ := h5
  simp [Cond.before, Cond.holds, Cond.value, h1, h2, h3, h4, g1, g2, g3, g4, g5, g6]
def isCode : Jvm.Cond → Bool
  | .code _ _ _ _ => true
  | _ => false
theorem all_split {L : List Jvm.Cond} {P : Jvm.Cond → Bool} (h1 : L.all (fun c => isCode c || P c) = true) (h2 : ∀ c ∈ L.filter isCode, P c = true) : L.all P = true := by
  refine List.all_eq_true.mpr fun c hc => ?_
  have h := List.all_eq_true.mp h1 c hc
  rcases Bool.eq_false_or_eq_true (isCode c) with hi | hi
  · exact h2 c (List.mem_filter.mpr ⟨hc, hi⟩)
  · simpa [hi] using h
set_option maxRecDepth 65536 in
theorem w_c0 : (Jvm.Cond.code x code maxLocals ret).before args0 about1 = true := code_word (m := ⟨1, 2⟩) (meth := k1m2) (c := k1c2) (by decide +kernel) rfl rfl rfl (by decide +kernel)
set_option maxRecDepth 65536 in
theorem w_c1 : (Jvm.Cond.code ({ cls := "com/example/map50k/map50k/rules/Loc", name := "needsPercentEncoding", desc := "(I)Z" } : Jvm.MethodName) prog_75_method_5_code (1 : Nat) (Option.some Jvm.ClassFile.FieldType.boolean)).before args0 about1 = true := code_word (m := ⟨2, 1⟩) (meth := k2m1) (c := k2c1) (by decide +kernel) rfl rfl rfl (by decide +kernel)
set_option maxRecDepth 65536 in
theorem w_c2 : (Jvm.Cond.code ({ cls := "com/example/map50k/map50k/rules/LocNeedsPercentEncodingPinLaw", name := "expected", desc := "(I)Z" } : Jvm.MethodName) method_2_code (1 : Nat) (Option.some Jvm.ClassFile.FieldType.boolean)).before args0 about1 = true := code_word (m := ⟨1, 1⟩) (meth := k1m1) (c := k1c1) (by decide +kernel) rfl rfl rfl (by decide +kernel)
def codes1 : List Jvm.Cond := [Jvm.Cond.code x code maxLocals ret, Jvm.Cond.code ({ cls := "com/example/map50k/map50k/rules/Loc", name := "needsPercentEncoding", desc := "(I)Z" } : Jvm.MethodName) prog_75_method_5_code (1 : Nat) (Option.some Jvm.ClassFile.FieldType.boolean), Jvm.Cond.code ({ cls := "com/example/map50k/map50k/rules/LocNeedsPercentEncodingPinLaw", name := "expected", desc := "(I)Z" } : Jvm.MethodName) method_2_code (1 : Nat) (Option.some Jvm.ClassFile.FieldType.boolean)]
set_option maxRecDepth 65536 in
theorem codes_eq : words1.filter isCode = codes1 := rfl
theorem w_codes : ∀ c ∈ words1.filter isCode, c.before args0 about1 = true := by
  rw [codes_eq]
  intro c hc
  simp only [codes1, List.mem_cons, List.not_mem_nil, or_false] at hc
  rcases hc with rfl | rfl | rfl
  · exact w_c0
  · exact w_c1
  · exact w_c2
set_option maxRecDepth 65536 in
theorem w_t1 : words1.all (fun c => isCode c || c.before args0 about1) = true := by decide +kernel
theorem w_tables : (allAtoms (Jvm.Cond.code x code maxLocals ret :: tables_1)).before args0 about1 = true := by
  rw [allAtoms_all]
  show words1.all (fun c => c.before args0 about1) = true
  refine all_split ?_ w_codes
  rw [w_t1]
set_option maxRecDepth 65536 in
theorem w_case : (Jvm.Cond.and given_1 narrow_1).before args0 about1 = true := by decide +kernel
theorem w_applies : (headSpec (Jvm.Cond.code x code maxLocals ret :: tables_1) room_1).applies x e0.platform about1 = true :=
  (Spec.applies_iff w_frames).mpr ⟨w_running, w_runnable, w_alone, w_named, w_hears, w_ripe, w_room, w_tables⟩
theorem atStart : AtStart classFile x code maxLocals ret World_1 tables_1 room_1 Calls_1 rest_1 Pre_1 launch0 p0 e0 about1 theMethod args0 below0 :=
  ⟨lists_1, trivial, launch0.admits_env _ _ _, launch0.least_env, fairChoices_fair.cas, fairChoices_fair.clock, w_frames, w_args, w_heap, w_applies, trivial, trivial, w_case⟩
end start1
theorem witness_1 : WitnessClaimed_1 := ⟨start1.p0, start1.e0, start1.about1, start1.theMethod, start1.args0, start1.below0, start1.atStart⟩
end Jvm.Pilot.@@N@@
