import JvmDerived
import JvmDerived.Pilot.@@N@@Statement
import JvmDerived.Pilot.@@N@@Code
set_option linter.unusedVariables false
set_option linter.unusedSimpArgs false
namespace Jvm.RoadKit
open Sem ClassFile Op Lib Jvm.Stand Jvm.Free Jvm.LawKit
section New
variable {p : Program} {l : Launch} {e : Env} {R : Room} {s : State} {m : MethodId} {args : Array Value} {below : List Frame} {meth : Method} {c : Code} {T : State} {locs : List Loc} {cells slots : Nat}
theorem retI (X : Stand p l e R s m args below meth c T locs cells slots) (hx : p.tables.exec = Jvm.exec) {pc : Nat} {Ls : Array Slot} {z : Int32} {rest : List Value} (hret : meth.sig.returnType = some .int) (hd : decode c.code pc = .ok (.ireturn, 1)) {fs : List Frame}
    (hl : ∀ (f : JFrame) (acts : List Action), f.method = m → f.locked = none → f.entered = [] → (doReturn e (T.setTop f) acts (some (.int z))).1 = T.setFrames fs) : Steps p.tables e below (T.setTop (mkF m pc Ls (.int z :: rest))) (T.setFrames fs) := by
  have hm' : T.vm.method? m = some meth := X.method'
  have hn : narrow .int (.int z) = .int z := rfl
  show Steps p.tables e below (T.setTop { method := m, pc := pc, locals := Ls, stack := _ :: rest, locked := none }) _
  jvm_step X.here [X.here.top, hx, hd, hm', hret, hn]
  first | (intro acts; rw [hl _ acts rfl rfl rfl]) | rw [hl _ _ rfl rfl rfl]
  exact Steps.refl _
end New
end Jvm.RoadKit
namespace Jvm.Pilot.@@N@@
open Jvm Jvm.ClassFile Sem Op Lib Jvm.Free Jvm.Stand Jvm.LawKit Jvm.RoadKit Bundle Jvm.Pilot.@@N@@.Jvm.D

def Rch (p : Program) (e : Env) (below : List Frame) (s : State) (C S : Nat) (st : State) (K : Option Value → Heap → List Loc → Prop) : Prop :=
  ∃ s₂ v L, Steps p.tables e below st s₂ ∧ s₂.status = .running ∧ Ended s₂ below (.returned v) ∧ K v s₂.heap L ∧ FrameEnd s (.returned v) s₂ L C S
section Own
variable {p : Program} {l : Launch} {e : Env} {R : Room} {s : State} {m : MethodId} {args : Array Value} {below : List Frame} {meth : Method} {c : Code} {T : State} {locs : List Loc} {cells slots C S : Nat} {K : Option Value → Heap → List Loc → Prop}
theorem Rch.step {st st' : State} (h : ∀ t, Steps p.tables e below st' t → Steps p.tables e below st t) (k : Rch p e below s C S st' K) : Rch p e below s C S st K := by
  obtain ⟨s₂, v, L, h1, h2⟩ := k
  exact ⟨s₂, v, L, h _ h1, h2⟩
theorem Rch.imp {st : State} {K' : Option Value → Heap → List Loc → Prop} (h : ∀ v hh L, K v hh L → K' v hh L) (k : Rch p e below s C S st K) : Rch p e below s C S st K' := by
  obtain ⟨s₂, v, L, h1, h2, h3, h4, h5⟩ := k
  exact ⟨s₂, v, L, h1, h2, h3, h _ _ _ h4, h5⟩
theorem Rch.retI (X : Stand p l e R s m args below meth c T locs cells slots) (hx : p.tables.exec = Jvm.exec) (hret : meth.sig.returnType = some .int) (hlk : meth.locks = false) {pc : Nat} {Ls : Array Slot} {z : Int32} {rest : List Value} (hd : decode c.code pc = .ok (.ireturn, 1)) (hC : cells ≤ C) (hS : slots ≤ S) (hK : K (some (.int z)) T.heap locs) :
    Rch p e below s C S (T.setTop (mkF m pc Ls (.int z :: rest))) K := by
  obtain ⟨fs, hr, hrun, hended, hW, hsame⟩ := X.leave (v := some (.int z)) (fun h => by rw [hret] at h; cases h) hlk
  exact ⟨_, _, _, Jvm.RoadKit.retI X hx hret hd hr, hrun, hended, hK, ⟨_, rfl⟩, hW, hsame.mono hC hS⟩
theorem Rch.retN (X : Stand p l e R s m args below meth c T locs cells slots) (hx : p.tables.exec = Jvm.exec) {t : FieldType} (hret : meth.sig.returnType = some t) (hlk : meth.locks = false) (ht : t = .boolean ∨ t = .byte ∨ t = .char ∨ t = .short) {pc : Nat} {Ls : Array Slot} {z : Int32} {rest : List Value} (hd : decode c.code pc = .ok (.ireturn, 1)) (hC : cells ≤ C) (hS : slots ≤ S) (hK : K (some (.int (nar t z))) T.heap locs) :
    Rch p e below s C S (T.setTop (mkF m pc Ls (.int z :: rest))) K := by
  obtain ⟨fs, hr, hrun, hended, hW, hsame⟩ := X.leave (v := some (.int (nar t z))) (fun h => by rw [hret] at h; cases h) hlk
  exact ⟨_, _, _, Jvm.RoadKit.retN X hx hret ht hd hr, hrun, hended, hK, ⟨_, rfl⟩, hW, hsame.mono hC hS⟩
theorem Rch.retJ (X : Stand p l e R s m args below meth c T locs cells slots) (hx : p.tables.exec = Jvm.exec) (hret : meth.sig.returnType = some .long) (hlk : meth.locks = false) {pc : Nat} {Ls : Array Slot} {z : Int64} (hd : decode c.code pc = .ok (.lreturn, 1)) (hC : cells ≤ C) (hS : slots ≤ S) (hK : K (some (.long z)) T.heap locs) :
    Rch p e below s C S (T.setTop (mkF m pc Ls [.long z])) K := by
  obtain ⟨fs, hr, hrun, hended, hW, hsame⟩ := X.leave (v := some (.long z)) (fun h => by rw [hret] at h; cases h) hlk
  exact ⟨_, _, _, X.lreturnOut hx hret hd hr, hrun, hended, hK, ⟨_, rfl⟩, hW, hsame.mono hC hS⟩
theorem Rch.retV (X : Stand p l e R s m args below meth c T locs cells slots) (hx : p.tables.exec = Jvm.exec) (hret : meth.sig.returnType = none) (hlk : meth.locks = false) {pc : Nat} {Ls : Array Slot} (hd : decode c.code pc = .ok (.return_, 1)) (hC : cells ≤ C) (hS : slots ≤ S) (hK : K none T.heap locs) :
    Rch p e below s C S (T.setTop (mkF m pc Ls [])) K := by
  obtain ⟨fs, hr, hrun, hended, hW, hsame⟩ := X.leave (v := none) (fun _ => rfl) hlk
  exact ⟨_, _, _, X.returnOut hx hret hd hr, hrun, hended, hK, ⟨_, rfl⟩, hW, hsame.mono hC hS⟩
end Own
def PI (z : Int32) (h0 : Heap) (n0 : Nat) : Option Value → Heap → List Loc → Prop := fun v h L => v = some (.int z) ∧ Fr n0 L ∧ h = h0
def PJ (z : Int64) (h0 : Heap) (n0 : Nat) : Option Value → Heap → List Loc → Prop := fun v h L => v = some (.long z) ∧ Fr n0 L ∧ h = h0
def Cx (R : Room) (bytes : ByteArray) (ml : Nat) (own : String) (rt : Option FieldType) (p : Program) (l : Launch) (e : Env) (s : State) (m : MethodId) (args : Array Value) (below : List Frame) (meth : Method) (c : Code) (T : State) (locs : List Loc) (cells slots : Nat) (Z : State) (a0 : Array Value) (h0 : Heap) (n0 : Nat) : Prop :=
  Stand p l e R s m args below meth c T locs cells slots ∧ p.tables.exec = Jvm.exec ∧ Z.Warmed39 s.vm ∧ (∀ d ∈ tables_1, d.before a0 Z = true) ∧ c.code = bytes ∧ c.maxLocals = ml ∧ s.vm.findClass own = some m.cls ∧ meth.sig.returnType = rt ∧ meth.locks = false ∧ T.heap = h0 ∧ n0 ≤ h0.size ∧ Fr n0 locs
-- body 1
theorem d1_0 : decode prog_5_method_4_code 0 = .ok (.iload_n 0, 1) := by decide +kernel
theorem d1_1 : decode prog_5_method_4_code 1 = .ok (.bipush 48, 2) := by decide +kernel
theorem d1_3 : decode prog_5_method_4_code 3 = .ok (.if_icmp .lt 13, 3) := by decide +kernel
theorem d1_6 : decode prog_5_method_4_code 6 = .ok (.iload_n 0, 1) := by decide +kernel
theorem d1_7 : decode prog_5_method_4_code 7 = .ok (.bipush 57, 2) := by decide +kernel
theorem d1_9 : decode prog_5_method_4_code 9 = .ok (.if_icmp .gt 7, 3) := by decide +kernel
theorem d1_12 : decode prog_5_method_4_code 12 = .ok (.iconst 1, 1) := by decide +kernel
theorem d1_13 : decode prog_5_method_4_code 13 = .ok (.goto 4, 3) := by decide +kernel
theorem d1_16 : decode prog_5_method_4_code 16 = .ok (.iconst 0, 1) := by decide +kernel
theorem d1_17 : decode prog_5_method_4_code 17 = .ok (.ireturn, 1) := by decide +kernel
theorem pn1 : plainName "com/example/meticulous_unifier/meticulousunifier/Lexicon" = true := by first | (simp [plainName, overriddenIn]; done) | decide +kernel
theorem pd1 : parseMethodDescriptor "(C)Z" = some ⟨[.char], some .boolean⟩ := by decide +kernel
def f1_0 (vi0 : Int32) : Int32 := (if vi0 < (48 : Int32) then (0 : Int32) else (if (57 : Int32) < vi0 then (0 : Int32) else (1 : Int32)))
set_option maxRecDepth 65536 in
set_option maxHeartbeats 40000000 in
theorem b1_0 {p : Program} {l : Launch} {e : Env} {s : State} {m : MethodId} {args : Array Value} {below : List Frame} {meth : Method} {c : Code} {T : State} {locs : List Loc} {Z : State} {a0 : Array Value} {h0 : Heap} {n0 : Nat} (cx : Cx ({ frames := 0, cells := 0, slots := 0, locals := 0 } : Room) prog_5_method_4_code 1 "com/example/meticulous_unifier/meticulousunifier/Lexicon" (some .boolean) p l e s m args below meth c T locs 0 0 Z a0 h0 n0) (vi0 : Int32) :
    Rch p e below s 0 0 (T.setTop (mkF m 0 #[.val (.int vi0)] [])) (PI (f1_0 vi0) h0 n0) := by
  obtain ⟨X0, hx, hZ, hw, hby, hml, hown, hret, hlk, e0, Z0, N0⟩ := cx
  unfold f1_0
  refine Rch.step (st' := T.setTop (mkF m 1 #[.val (.int vi0)] [(.int vi0)])) (fun _ hr => XS.iloadN X0.here hx rfl (hb hby d1_0) rfl hr) ?_
  refine Rch.step (st' := T.setTop (mkF m 3 #[.val (.int vi0)] [(.int (48 : Int32)), (.int vi0)])) (fun _ hr => XS.bipush X0.here hx rfl (hb hby d1_1) hr) ?_
  by_cases hc1 : vi0 < (48 : Int32)
  · rw [if_pos hc1]
    refine Rch.step (st' := T.setTop (mkF m 16 #[.val (.int vi0)] [])) (fun _ hr => XS.icmpYes X0.here hx rfl (pc0 := 3) (pc' := 16) rfl (hb hby d1_3) rfl (tlt hc1).1 (by decide) (by decide) hr) ?_
    refine Rch.step (st' := T.setTop (mkF m 17 #[.val (.int vi0)] [(.int (0 : Int32))])) (fun _ hr => XS.iconst X0.here hx rfl (hb hby d1_16) hr) ?_
    exact Rch.retN X0 hx (t := .boolean) hret hlk (by simp) (hb hby d1_17) (by decide) (by decide) ⟨rfl, N0, e0⟩
  · rw [if_neg hc1]
    refine Rch.step (st' := T.setTop (mkF m 6 #[.val (.int vi0)] [])) (fun _ hr => XS.icmpNo X0.here hx rfl (hb hby d1_3) rfl (flt hc1).1 hr) ?_
    refine Rch.step (st' := T.setTop (mkF m 7 #[.val (.int vi0)] [(.int vi0)])) (fun _ hr => XS.iloadN X0.here hx rfl (hb hby d1_6) rfl hr) ?_
    refine Rch.step (st' := T.setTop (mkF m 9 #[.val (.int vi0)] [(.int (57 : Int32)), (.int vi0)])) (fun _ hr => XS.bipush X0.here hx rfl (hb hby d1_7) hr) ?_
    by_cases hc2 : (57 : Int32) < vi0
    · rw [if_pos hc2]
      refine Rch.step (st' := T.setTop (mkF m 16 #[.val (.int vi0)] [])) (fun _ hr => XS.icmpYes X0.here hx rfl (pc0 := 9) (pc' := 16) rfl (hb hby d1_9) rfl (tlt hc2).2.2.1 (by decide) (by decide) hr) ?_
      refine Rch.step (st' := T.setTop (mkF m 17 #[.val (.int vi0)] [(.int (0 : Int32))])) (fun _ hr => XS.iconst X0.here hx rfl (hb hby d1_16) hr) ?_
      exact Rch.retN X0 hx (t := .boolean) hret hlk (by simp) (hb hby d1_17) (by decide) (by decide) ⟨rfl, N0, e0⟩
    · rw [if_neg hc2]
      refine Rch.step (st' := T.setTop (mkF m 12 #[.val (.int vi0)] [])) (fun _ hr => XS.icmpNo X0.here hx rfl (hb hby d1_9) rfl (flt hc2).2.2.1 hr) ?_
      refine Rch.step (st' := T.setTop (mkF m 13 #[.val (.int vi0)] [(.int (1 : Int32))])) (fun _ hr => XS.iconst X0.here hx rfl (hb hby d1_12) hr) ?_
      refine Rch.step (st' := T.setTop (mkF m 17 #[.val (.int vi0)] [(.int (1 : Int32))])) (fun _ hr => XS.goto X0.here hx rfl (pc0 := 13) (pc' := 17) rfl (hb hby d1_13) (by decide) (by decide) hr) ?_
      exact Rch.retN X0 hx (t := .boolean) hret hlk (by simp) (hb hby d1_17) (by decide) (by decide) ⟨rfl, N0, e0⟩
theorem ef1 (m : MethodId) (x0 : Int32) : entryFrame m #[(.int x0)] 1 = mkF m 0 #[.val (.int x0)] [] := by first | (simp [entryFrame, mkF, argsToLocals, Value.category]; done) | rfl
set_option maxRecDepth 65536 in
set_option maxHeartbeats 40000000 in
theorem rm1 (l : Launch) (Z : State) (a0 : Array Value) (hw : ∀ d ∈ tables_1, d.before a0 Z = true) (ws : List Jvm.Cond) (vi0 : Int32) (h0 : Heap) (n0 : Nat) (Z0 : n0 ≤ h0.size) :
    MetFree l (⟨"com/example/meticulous_unifier/meticulousunifier/Lexicon", "isDigit", "(C)Z"⟩ : MethodName) (head1 (Jvm.Cond.code (⟨"com/example/meticulous_unifier/meticulousunifier/Lexicon", "isDigit", "(C)Z"⟩ : MethodName) prog_5_method_4_code 1 (some .boolean) :: ws) ({ frames := 0, cells := 0, slots := 0, locals := 0 } : Room)) (fun a U => a = #[(.int vi0)] ∧ Z.Warmed39 U.vm ∧ U.heap = h0) (fun _ _ _ _ _ => True) (fun _ U o U' => ∃ v L, o = .returned v ∧ PI (f1_0 vi0) h0 n0 v U'.heap L ∧ FrameEnd U o U' L ({ frames := 0, cells := 0, slots := 0, locals := 0 } : Room).cells ({ frames := 0, cells := 0, slots := 0, locals := 0 } : Room).slots) := by
  refine MetFree.of_bodySF (plainFor_of_name pn1) hisR ?_
  intro p e s m args below meth c s₁ Bd hml0 hP hK
  obtain ⟨rfl, hZ, hh⟩ := hP
  have hown : s.vm.findClass "com/example/meticulous_unifier/meticulousunifier/Lexicon" = some m.cls := findClass_of_methodNamed Bd.named
  have e0 : s₁.heap = h0 := by rw [← hh, Bd.state]; rfl
  obtain ⟨s₂, v, L, h1, h2, h3, h4, h5⟩ := b1_0 (T := s₁) ⟨Stand.of_body Bd, Bd.exec, hZ, hw, Bd.bytes, hml0, hown, Bd.returns, BodyLoose.notSynchronized Bd, e0, Z0, Fr.nil n0⟩ vi0
  exact ⟨s₂, .returned v, castTop (ef1 m vi0) h1, h2, h3, v, L, rfl, h4, h5⟩
-- body 2
theorem d2_0 : decode method_2_code 0 = .ok (.iload_n 0, 1) := by decide +kernel
theorem d2_1 : decode method_2_code 1 = .ok (.bipush 48, 2) := by decide +kernel
theorem d2_3 : decode method_2_code 3 = .ok (.if_icmp .eq 57, 3) := by decide +kernel
theorem d2_6 : decode method_2_code 6 = .ok (.iload_n 0, 1) := by decide +kernel
theorem d2_7 : decode method_2_code 7 = .ok (.bipush 49, 2) := by decide +kernel
theorem d2_9 : decode method_2_code 9 = .ok (.if_icmp .eq 51, 3) := by decide +kernel
theorem d2_12 : decode method_2_code 12 = .ok (.iload_n 0, 1) := by decide +kernel
theorem d2_13 : decode method_2_code 13 = .ok (.bipush 50, 2) := by decide +kernel
theorem d2_15 : decode method_2_code 15 = .ok (.if_icmp .eq 45, 3) := by decide +kernel
theorem d2_18 : decode method_2_code 18 = .ok (.iload_n 0, 1) := by decide +kernel
theorem d2_19 : decode method_2_code 19 = .ok (.bipush 51, 2) := by decide +kernel
theorem d2_21 : decode method_2_code 21 = .ok (.if_icmp .eq 39, 3) := by decide +kernel
theorem d2_24 : decode method_2_code 24 = .ok (.iload_n 0, 1) := by decide +kernel
theorem d2_25 : decode method_2_code 25 = .ok (.bipush 52, 2) := by decide +kernel
theorem d2_27 : decode method_2_code 27 = .ok (.if_icmp .eq 33, 3) := by decide +kernel
theorem d2_30 : decode method_2_code 30 = .ok (.iload_n 0, 1) := by decide +kernel
theorem d2_31 : decode method_2_code 31 = .ok (.bipush 53, 2) := by decide +kernel
theorem d2_33 : decode method_2_code 33 = .ok (.if_icmp .eq 27, 3) := by decide +kernel
theorem d2_36 : decode method_2_code 36 = .ok (.iload_n 0, 1) := by decide +kernel
theorem d2_37 : decode method_2_code 37 = .ok (.bipush 54, 2) := by decide +kernel
theorem d2_39 : decode method_2_code 39 = .ok (.if_icmp .eq 21, 3) := by decide +kernel
theorem d2_42 : decode method_2_code 42 = .ok (.iload_n 0, 1) := by decide +kernel
theorem d2_43 : decode method_2_code 43 = .ok (.bipush 55, 2) := by decide +kernel
theorem d2_45 : decode method_2_code 45 = .ok (.if_icmp .eq 15, 3) := by decide +kernel
theorem d2_48 : decode method_2_code 48 = .ok (.iload_n 0, 1) := by decide +kernel
theorem d2_49 : decode method_2_code 49 = .ok (.bipush 56, 2) := by decide +kernel
theorem d2_51 : decode method_2_code 51 = .ok (.if_icmp .eq 9, 3) := by decide +kernel
theorem d2_54 : decode method_2_code 54 = .ok (.iload_n 0, 1) := by decide +kernel
theorem d2_55 : decode method_2_code 55 = .ok (.bipush 57, 2) := by decide +kernel
theorem d2_57 : decode method_2_code 57 = .ok (.if_icmp .ne 7, 3) := by decide +kernel
theorem d2_60 : decode method_2_code 60 = .ok (.iconst 1, 1) := by decide +kernel
theorem d2_61 : decode method_2_code 61 = .ok (.goto 4, 3) := by decide +kernel
theorem d2_64 : decode method_2_code 64 = .ok (.iconst 0, 1) := by decide +kernel
theorem d2_65 : decode method_2_code 65 = .ok (.ireturn, 1) := by decide +kernel
theorem pn2 : plainName "com/example/meticulous_unifier/meticulousunifier/LexiconIsDigitPinLaw" = true := by first | (simp [plainName, overriddenIn]; done) | decide +kernel
theorem pd2 : parseMethodDescriptor "(C)Z" = some ⟨[.char], some .boolean⟩ := by decide +kernel
def f2_0 (vi0 : Int32) : Int32 := (if vi0 = (48 : Int32) then (1 : Int32) else (if vi0 = (49 : Int32) then (1 : Int32) else (if vi0 = (50 : Int32) then (1 : Int32) else (if vi0 = (51 : Int32) then (1 : Int32) else (if vi0 = (52 : Int32) then (1 : Int32) else (if vi0 = (53 : Int32) then (1 : Int32) else (if vi0 = (54 : Int32) then (1 : Int32) else (if vi0 = (55 : Int32) then (1 : Int32) else (if vi0 = (56 : Int32) then (1 : Int32) else (if vi0 = (57 : Int32) then (1 : Int32) else (0 : Int32)))))))))))
set_option maxRecDepth 65536 in
set_option maxHeartbeats 40000000 in
theorem b2_0 {p : Program} {l : Launch} {e : Env} {s : State} {m : MethodId} {args : Array Value} {below : List Frame} {meth : Method} {c : Code} {T : State} {locs : List Loc} {Z : State} {a0 : Array Value} {h0 : Heap} {n0 : Nat} (cx : Cx ({ frames := 0, cells := 0, slots := 0, locals := 0 } : Room) method_2_code 1 "com/example/meticulous_unifier/meticulousunifier/LexiconIsDigitPinLaw" (some .boolean) p l e s m args below meth c T locs 0 0 Z a0 h0 n0) (vi0 : Int32) :
    Rch p e below s 0 0 (T.setTop (mkF m 0 #[.val (.int vi0)] [])) (PI (f2_0 vi0) h0 n0) := by
  obtain ⟨X0, hx, hZ, hw, hby, hml, hown, hret, hlk, e0, Z0, N0⟩ := cx
  unfold f2_0
  refine Rch.step (st' := T.setTop (mkF m 1 #[.val (.int vi0)] [(.int vi0)])) (fun _ hr => XS.iloadN X0.here hx rfl (hb hby d2_0) rfl hr) ?_
  refine Rch.step (st' := T.setTop (mkF m 3 #[.val (.int vi0)] [(.int (48 : Int32)), (.int vi0)])) (fun _ hr => XS.bipush X0.here hx rfl (hb hby d2_1) hr) ?_
  by_cases hc1 : vi0 = (48 : Int32)
  · rw [if_pos hc1]
    refine Rch.step (st' := T.setTop (mkF m 60 #[.val (.int vi0)] [])) (fun _ hr => XS.icmpYes X0.here hx rfl (pc0 := 3) (pc' := 60) rfl (hb hby d2_3) rfl (teq hc1).1 (by decide) (by decide) hr) ?_
    refine Rch.step (st' := T.setTop (mkF m 61 #[.val (.int vi0)] [(.int (1 : Int32))])) (fun _ hr => XS.iconst X0.here hx rfl (hb hby d2_60) hr) ?_
    refine Rch.step (st' := T.setTop (mkF m 65 #[.val (.int vi0)] [(.int (1 : Int32))])) (fun _ hr => XS.goto X0.here hx rfl (pc0 := 61) (pc' := 65) rfl (hb hby d2_61) (by decide) (by decide) hr) ?_
    exact Rch.retN X0 hx (t := .boolean) hret hlk (by simp) (hb hby d2_65) (by decide) (by decide) ⟨rfl, N0, e0⟩
  · rw [if_neg hc1]
    refine Rch.step (st' := T.setTop (mkF m 6 #[.val (.int vi0)] [])) (fun _ hr => XS.icmpNo X0.here hx rfl (hb hby d2_3) rfl (feq hc1).1 hr) ?_
    refine Rch.step (st' := T.setTop (mkF m 7 #[.val (.int vi0)] [(.int vi0)])) (fun _ hr => XS.iloadN X0.here hx rfl (hb hby d2_6) rfl hr) ?_
    refine Rch.step (st' := T.setTop (mkF m 9 #[.val (.int vi0)] [(.int (49 : Int32)), (.int vi0)])) (fun _ hr => XS.bipush X0.here hx rfl (hb hby d2_7) hr) ?_
    by_cases hc2 : vi0 = (49 : Int32)
    · rw [if_pos hc2]
      refine Rch.step (st' := T.setTop (mkF m 60 #[.val (.int vi0)] [])) (fun _ hr => XS.icmpYes X0.here hx rfl (pc0 := 9) (pc' := 60) rfl (hb hby d2_9) rfl (teq hc2).1 (by decide) (by decide) hr) ?_
      refine Rch.step (st' := T.setTop (mkF m 61 #[.val (.int vi0)] [(.int (1 : Int32))])) (fun _ hr => XS.iconst X0.here hx rfl (hb hby d2_60) hr) ?_
      refine Rch.step (st' := T.setTop (mkF m 65 #[.val (.int vi0)] [(.int (1 : Int32))])) (fun _ hr => XS.goto X0.here hx rfl (pc0 := 61) (pc' := 65) rfl (hb hby d2_61) (by decide) (by decide) hr) ?_
      exact Rch.retN X0 hx (t := .boolean) hret hlk (by simp) (hb hby d2_65) (by decide) (by decide) ⟨rfl, N0, e0⟩
    · rw [if_neg hc2]
      refine Rch.step (st' := T.setTop (mkF m 12 #[.val (.int vi0)] [])) (fun _ hr => XS.icmpNo X0.here hx rfl (hb hby d2_9) rfl (feq hc2).1 hr) ?_
      refine Rch.step (st' := T.setTop (mkF m 13 #[.val (.int vi0)] [(.int vi0)])) (fun _ hr => XS.iloadN X0.here hx rfl (hb hby d2_12) rfl hr) ?_
      refine Rch.step (st' := T.setTop (mkF m 15 #[.val (.int vi0)] [(.int (50 : Int32)), (.int vi0)])) (fun _ hr => XS.bipush X0.here hx rfl (hb hby d2_13) hr) ?_
      by_cases hc3 : vi0 = (50 : Int32)
      · rw [if_pos hc3]
        refine Rch.step (st' := T.setTop (mkF m 60 #[.val (.int vi0)] [])) (fun _ hr => XS.icmpYes X0.here hx rfl (pc0 := 15) (pc' := 60) rfl (hb hby d2_15) rfl (teq hc3).1 (by decide) (by decide) hr) ?_
        refine Rch.step (st' := T.setTop (mkF m 61 #[.val (.int vi0)] [(.int (1 : Int32))])) (fun _ hr => XS.iconst X0.here hx rfl (hb hby d2_60) hr) ?_
        refine Rch.step (st' := T.setTop (mkF m 65 #[.val (.int vi0)] [(.int (1 : Int32))])) (fun _ hr => XS.goto X0.here hx rfl (pc0 := 61) (pc' := 65) rfl (hb hby d2_61) (by decide) (by decide) hr) ?_
        exact Rch.retN X0 hx (t := .boolean) hret hlk (by simp) (hb hby d2_65) (by decide) (by decide) ⟨rfl, N0, e0⟩
      · rw [if_neg hc3]
        refine Rch.step (st' := T.setTop (mkF m 18 #[.val (.int vi0)] [])) (fun _ hr => XS.icmpNo X0.here hx rfl (hb hby d2_15) rfl (feq hc3).1 hr) ?_
        refine Rch.step (st' := T.setTop (mkF m 19 #[.val (.int vi0)] [(.int vi0)])) (fun _ hr => XS.iloadN X0.here hx rfl (hb hby d2_18) rfl hr) ?_
        refine Rch.step (st' := T.setTop (mkF m 21 #[.val (.int vi0)] [(.int (51 : Int32)), (.int vi0)])) (fun _ hr => XS.bipush X0.here hx rfl (hb hby d2_19) hr) ?_
        by_cases hc4 : vi0 = (51 : Int32)
        · rw [if_pos hc4]
          refine Rch.step (st' := T.setTop (mkF m 60 #[.val (.int vi0)] [])) (fun _ hr => XS.icmpYes X0.here hx rfl (pc0 := 21) (pc' := 60) rfl (hb hby d2_21) rfl (teq hc4).1 (by decide) (by decide) hr) ?_
          refine Rch.step (st' := T.setTop (mkF m 61 #[.val (.int vi0)] [(.int (1 : Int32))])) (fun _ hr => XS.iconst X0.here hx rfl (hb hby d2_60) hr) ?_
          refine Rch.step (st' := T.setTop (mkF m 65 #[.val (.int vi0)] [(.int (1 : Int32))])) (fun _ hr => XS.goto X0.here hx rfl (pc0 := 61) (pc' := 65) rfl (hb hby d2_61) (by decide) (by decide) hr) ?_
          exact Rch.retN X0 hx (t := .boolean) hret hlk (by simp) (hb hby d2_65) (by decide) (by decide) ⟨rfl, N0, e0⟩
        · rw [if_neg hc4]
          refine Rch.step (st' := T.setTop (mkF m 24 #[.val (.int vi0)] [])) (fun _ hr => XS.icmpNo X0.here hx rfl (hb hby d2_21) rfl (feq hc4).1 hr) ?_
          refine Rch.step (st' := T.setTop (mkF m 25 #[.val (.int vi0)] [(.int vi0)])) (fun _ hr => XS.iloadN X0.here hx rfl (hb hby d2_24) rfl hr) ?_
          refine Rch.step (st' := T.setTop (mkF m 27 #[.val (.int vi0)] [(.int (52 : Int32)), (.int vi0)])) (fun _ hr => XS.bipush X0.here hx rfl (hb hby d2_25) hr) ?_
          by_cases hc5 : vi0 = (52 : Int32)
          · rw [if_pos hc5]
            refine Rch.step (st' := T.setTop (mkF m 60 #[.val (.int vi0)] [])) (fun _ hr => XS.icmpYes X0.here hx rfl (pc0 := 27) (pc' := 60) rfl (hb hby d2_27) rfl (teq hc5).1 (by decide) (by decide) hr) ?_
            refine Rch.step (st' := T.setTop (mkF m 61 #[.val (.int vi0)] [(.int (1 : Int32))])) (fun _ hr => XS.iconst X0.here hx rfl (hb hby d2_60) hr) ?_
            refine Rch.step (st' := T.setTop (mkF m 65 #[.val (.int vi0)] [(.int (1 : Int32))])) (fun _ hr => XS.goto X0.here hx rfl (pc0 := 61) (pc' := 65) rfl (hb hby d2_61) (by decide) (by decide) hr) ?_
            exact Rch.retN X0 hx (t := .boolean) hret hlk (by simp) (hb hby d2_65) (by decide) (by decide) ⟨rfl, N0, e0⟩
          · rw [if_neg hc5]
            refine Rch.step (st' := T.setTop (mkF m 30 #[.val (.int vi0)] [])) (fun _ hr => XS.icmpNo X0.here hx rfl (hb hby d2_27) rfl (feq hc5).1 hr) ?_
            refine Rch.step (st' := T.setTop (mkF m 31 #[.val (.int vi0)] [(.int vi0)])) (fun _ hr => XS.iloadN X0.here hx rfl (hb hby d2_30) rfl hr) ?_
            refine Rch.step (st' := T.setTop (mkF m 33 #[.val (.int vi0)] [(.int (53 : Int32)), (.int vi0)])) (fun _ hr => XS.bipush X0.here hx rfl (hb hby d2_31) hr) ?_
            by_cases hc6 : vi0 = (53 : Int32)
            · rw [if_pos hc6]
              refine Rch.step (st' := T.setTop (mkF m 60 #[.val (.int vi0)] [])) (fun _ hr => XS.icmpYes X0.here hx rfl (pc0 := 33) (pc' := 60) rfl (hb hby d2_33) rfl (teq hc6).1 (by decide) (by decide) hr) ?_
              refine Rch.step (st' := T.setTop (mkF m 61 #[.val (.int vi0)] [(.int (1 : Int32))])) (fun _ hr => XS.iconst X0.here hx rfl (hb hby d2_60) hr) ?_
              refine Rch.step (st' := T.setTop (mkF m 65 #[.val (.int vi0)] [(.int (1 : Int32))])) (fun _ hr => XS.goto X0.here hx rfl (pc0 := 61) (pc' := 65) rfl (hb hby d2_61) (by decide) (by decide) hr) ?_
              exact Rch.retN X0 hx (t := .boolean) hret hlk (by simp) (hb hby d2_65) (by decide) (by decide) ⟨rfl, N0, e0⟩
            · rw [if_neg hc6]
              refine Rch.step (st' := T.setTop (mkF m 36 #[.val (.int vi0)] [])) (fun _ hr => XS.icmpNo X0.here hx rfl (hb hby d2_33) rfl (feq hc6).1 hr) ?_
              refine Rch.step (st' := T.setTop (mkF m 37 #[.val (.int vi0)] [(.int vi0)])) (fun _ hr => XS.iloadN X0.here hx rfl (hb hby d2_36) rfl hr) ?_
              refine Rch.step (st' := T.setTop (mkF m 39 #[.val (.int vi0)] [(.int (54 : Int32)), (.int vi0)])) (fun _ hr => XS.bipush X0.here hx rfl (hb hby d2_37) hr) ?_
              by_cases hc7 : vi0 = (54 : Int32)
              · rw [if_pos hc7]
                refine Rch.step (st' := T.setTop (mkF m 60 #[.val (.int vi0)] [])) (fun _ hr => XS.icmpYes X0.here hx rfl (pc0 := 39) (pc' := 60) rfl (hb hby d2_39) rfl (teq hc7).1 (by decide) (by decide) hr) ?_
                refine Rch.step (st' := T.setTop (mkF m 61 #[.val (.int vi0)] [(.int (1 : Int32))])) (fun _ hr => XS.iconst X0.here hx rfl (hb hby d2_60) hr) ?_
                refine Rch.step (st' := T.setTop (mkF m 65 #[.val (.int vi0)] [(.int (1 : Int32))])) (fun _ hr => XS.goto X0.here hx rfl (pc0 := 61) (pc' := 65) rfl (hb hby d2_61) (by decide) (by decide) hr) ?_
                exact Rch.retN X0 hx (t := .boolean) hret hlk (by simp) (hb hby d2_65) (by decide) (by decide) ⟨rfl, N0, e0⟩
              · rw [if_neg hc7]
                refine Rch.step (st' := T.setTop (mkF m 42 #[.val (.int vi0)] [])) (fun _ hr => XS.icmpNo X0.here hx rfl (hb hby d2_39) rfl (feq hc7).1 hr) ?_
                refine Rch.step (st' := T.setTop (mkF m 43 #[.val (.int vi0)] [(.int vi0)])) (fun _ hr => XS.iloadN X0.here hx rfl (hb hby d2_42) rfl hr) ?_
                refine Rch.step (st' := T.setTop (mkF m 45 #[.val (.int vi0)] [(.int (55 : Int32)), (.int vi0)])) (fun _ hr => XS.bipush X0.here hx rfl (hb hby d2_43) hr) ?_
                by_cases hc8 : vi0 = (55 : Int32)
                · rw [if_pos hc8]
                  refine Rch.step (st' := T.setTop (mkF m 60 #[.val (.int vi0)] [])) (fun _ hr => XS.icmpYes X0.here hx rfl (pc0 := 45) (pc' := 60) rfl (hb hby d2_45) rfl (teq hc8).1 (by decide) (by decide) hr) ?_
                  refine Rch.step (st' := T.setTop (mkF m 61 #[.val (.int vi0)] [(.int (1 : Int32))])) (fun _ hr => XS.iconst X0.here hx rfl (hb hby d2_60) hr) ?_
                  refine Rch.step (st' := T.setTop (mkF m 65 #[.val (.int vi0)] [(.int (1 : Int32))])) (fun _ hr => XS.goto X0.here hx rfl (pc0 := 61) (pc' := 65) rfl (hb hby d2_61) (by decide) (by decide) hr) ?_
                  exact Rch.retN X0 hx (t := .boolean) hret hlk (by simp) (hb hby d2_65) (by decide) (by decide) ⟨rfl, N0, e0⟩
                · rw [if_neg hc8]
                  refine Rch.step (st' := T.setTop (mkF m 48 #[.val (.int vi0)] [])) (fun _ hr => XS.icmpNo X0.here hx rfl (hb hby d2_45) rfl (feq hc8).1 hr) ?_
                  refine Rch.step (st' := T.setTop (mkF m 49 #[.val (.int vi0)] [(.int vi0)])) (fun _ hr => XS.iloadN X0.here hx rfl (hb hby d2_48) rfl hr) ?_
                  refine Rch.step (st' := T.setTop (mkF m 51 #[.val (.int vi0)] [(.int (56 : Int32)), (.int vi0)])) (fun _ hr => XS.bipush X0.here hx rfl (hb hby d2_49) hr) ?_
                  by_cases hc9 : vi0 = (56 : Int32)
                  · rw [if_pos hc9]
                    refine Rch.step (st' := T.setTop (mkF m 60 #[.val (.int vi0)] [])) (fun _ hr => XS.icmpYes X0.here hx rfl (pc0 := 51) (pc' := 60) rfl (hb hby d2_51) rfl (teq hc9).1 (by decide) (by decide) hr) ?_
                    refine Rch.step (st' := T.setTop (mkF m 61 #[.val (.int vi0)] [(.int (1 : Int32))])) (fun _ hr => XS.iconst X0.here hx rfl (hb hby d2_60) hr) ?_
                    refine Rch.step (st' := T.setTop (mkF m 65 #[.val (.int vi0)] [(.int (1 : Int32))])) (fun _ hr => XS.goto X0.here hx rfl (pc0 := 61) (pc' := 65) rfl (hb hby d2_61) (by decide) (by decide) hr) ?_
                    exact Rch.retN X0 hx (t := .boolean) hret hlk (by simp) (hb hby d2_65) (by decide) (by decide) ⟨rfl, N0, e0⟩
                  · rw [if_neg hc9]
                    refine Rch.step (st' := T.setTop (mkF m 54 #[.val (.int vi0)] [])) (fun _ hr => XS.icmpNo X0.here hx rfl (hb hby d2_51) rfl (feq hc9).1 hr) ?_
                    refine Rch.step (st' := T.setTop (mkF m 55 #[.val (.int vi0)] [(.int vi0)])) (fun _ hr => XS.iloadN X0.here hx rfl (hb hby d2_54) rfl hr) ?_
                    refine Rch.step (st' := T.setTop (mkF m 57 #[.val (.int vi0)] [(.int (57 : Int32)), (.int vi0)])) (fun _ hr => XS.bipush X0.here hx rfl (hb hby d2_55) hr) ?_
                    by_cases hc10 : vi0 = (57 : Int32)
                    · rw [if_pos hc10]
                      refine Rch.step (st' := T.setTop (mkF m 60 #[.val (.int vi0)] [])) (fun _ hr => XS.icmpNo X0.here hx rfl (hb hby d2_57) rfl (teq hc10).2 hr) ?_
                      refine Rch.step (st' := T.setTop (mkF m 61 #[.val (.int vi0)] [(.int (1 : Int32))])) (fun _ hr => XS.iconst X0.here hx rfl (hb hby d2_60) hr) ?_
                      refine Rch.step (st' := T.setTop (mkF m 65 #[.val (.int vi0)] [(.int (1 : Int32))])) (fun _ hr => XS.goto X0.here hx rfl (pc0 := 61) (pc' := 65) rfl (hb hby d2_61) (by decide) (by decide) hr) ?_
                      exact Rch.retN X0 hx (t := .boolean) hret hlk (by simp) (hb hby d2_65) (by decide) (by decide) ⟨rfl, N0, e0⟩
                    · rw [if_neg hc10]
                      refine Rch.step (st' := T.setTop (mkF m 64 #[.val (.int vi0)] [])) (fun _ hr => XS.icmpYes X0.here hx rfl (pc0 := 57) (pc' := 64) rfl (hb hby d2_57) rfl (feq hc10).2 (by decide) (by decide) hr) ?_
                      refine Rch.step (st' := T.setTop (mkF m 65 #[.val (.int vi0)] [(.int (0 : Int32))])) (fun _ hr => XS.iconst X0.here hx rfl (hb hby d2_64) hr) ?_
                      exact Rch.retN X0 hx (t := .boolean) hret hlk (by simp) (hb hby d2_65) (by decide) (by decide) ⟨rfl, N0, e0⟩
theorem ef2 (m : MethodId) (x0 : Int32) : entryFrame m #[(.int x0)] 1 = mkF m 0 #[.val (.int x0)] [] := by first | (simp [entryFrame, mkF, argsToLocals, Value.category]; done) | rfl
set_option maxRecDepth 65536 in
set_option maxHeartbeats 40000000 in
theorem rm2 (l : Launch) (Z : State) (a0 : Array Value) (hw : ∀ d ∈ tables_1, d.before a0 Z = true) (ws : List Jvm.Cond) (vi0 : Int32) (h0 : Heap) (n0 : Nat) (Z0 : n0 ≤ h0.size) :
    MetFree l (⟨"com/example/meticulous_unifier/meticulousunifier/LexiconIsDigitPinLaw", "oneOfTheTen", "(C)Z"⟩ : MethodName) (head1 (Jvm.Cond.code (⟨"com/example/meticulous_unifier/meticulousunifier/LexiconIsDigitPinLaw", "oneOfTheTen", "(C)Z"⟩ : MethodName) method_2_code 1 (some .boolean) :: ws) ({ frames := 0, cells := 0, slots := 0, locals := 0 } : Room)) (fun a U => a = #[(.int vi0)] ∧ Z.Warmed39 U.vm ∧ U.heap = h0) (fun _ _ _ _ _ => True) (fun _ U o U' => ∃ v L, o = .returned v ∧ PI (f2_0 vi0) h0 n0 v U'.heap L ∧ FrameEnd U o U' L ({ frames := 0, cells := 0, slots := 0, locals := 0 } : Room).cells ({ frames := 0, cells := 0, slots := 0, locals := 0 } : Room).slots) := by
  refine MetFree.of_bodySF (plainFor_of_name pn2) hisR ?_
  intro p e s m args below meth c s₁ Bd hml0 hP hK
  obtain ⟨rfl, hZ, hh⟩ := hP
  have hown : s.vm.findClass "com/example/meticulous_unifier/meticulousunifier/LexiconIsDigitPinLaw" = some m.cls := findClass_of_methodNamed Bd.named
  have e0 : s₁.heap = h0 := by rw [← hh, Bd.state]; rfl
  obtain ⟨s₂, v, L, h1, h2, h3, h4, h5⟩ := b2_0 (T := s₁) ⟨Stand.of_body Bd, Bd.exec, hZ, hw, Bd.bytes, hml0, hown, Bd.returns, BodyLoose.notSynchronized Bd, e0, Z0, Fr.nil n0⟩ vi0
  exact ⟨s₂, .returned v, castTop (ef2 m vi0) h1, h2, h3, v, L, rfl, h4, h5⟩
-- body 0
theorem pn0 : plainName "com/example/meticulous_unifier/meticulousunifier/LexiconIsDigitPinLaw" = true := by first | (simp [plainName, overriddenIn]; done) | decide +kernel
def f0_27 (vi2 : Int32) : Int32 := (if (f1_0 vi2) = (f2_0 vi2) then (1 : Int32) else (0 : Int32))
def f0_0 (vi0 : Int32) (vi1 : Int32) : Int32 := (if (vi0 &&& (1 : Int32)) = (0 : Int32) then (f0_27 ((vi1 &&& (65535 : Int32)).toUInt32.toUInt16.toUInt32.toInt32)) else (f0_27 (((47 : Int32) + ((vi1 &&& (2147483647 : Int32)) - ((vi1 &&& (2147483647 : Int32)) / (12 : Int32)) * (12 : Int32))).toUInt32.toUInt16.toUInt32.toInt32)))
set_option maxRecDepth 65536 in
set_option maxHeartbeats 40000000 in
theorem b0_27 {p : Program} {l : Launch} {e : Env} {s : State} {m : MethodId} {args : Array Value} {below : List Frame} {meth : Method} {c : Code} {T : State} {locs : List Loc} {Z : State} {a0 : Array Value} {h0 : Heap} {n0 : Nat} (cx : Cx room_1 code 3 "com/example/meticulous_unifier/meticulousunifier/LexiconIsDigitPinLaw" (some .boolean) p l e s m args below meth c T locs 0 0 Z a0 h0 n0) (vi0 : Int32) (vi1 : Int32) (vi2 : Int32) :
    Rch p e below s 0 0 (T.setTop (mkF m 27 #[.val (.int vi0), .val (.int vi1), .val (.int vi2)] [])) (PI (f0_27 vi2) h0 n0) := by
  obtain ⟨X0, hx, hZ, hw, hby, hml, hown, hret, hlk, e0, Z0, N0⟩ := cx
  unfold f0_27
  refine Rch.step (st' := T.setTop (mkF m 28 #[.val (.int vi0), .val (.int vi1), .val (.int vi2)] [(.int vi2)])) (fun _ hr => XS.iloadN X0.here hx rfl (hb hby at_27) rfl hr) ?_
  obtain ⟨_, _, ⟨T1, L1, k1, n1⟩, -, X1, ⟨Lc1, hQ1, l1, y1, z1⟩, st1⟩ := Jvm.LawKit.callS X0 hx (y := (⟨"com/example/meticulous_unifier/meticulousunifier/Lexicon", "isDigit", "(C)Z"⟩ : MethodName)) hown (mvT hZ (hw _ (List.mem_of_getElem? (i := 1) rfl))) (mvT hZ (hw _ (List.mem_of_getElem? (i := 2) rfl))) (mvT hZ (hw _ (List.mem_of_getElem? (i := 3) rfl))) (mvT hZ (hw _ (List.mem_of_getElem? (i := 4) rfl))) (by decide) (backOf (W := 0) (rm1 l Z a0 hw [] vi2 h0 n0 Z0) hZ (hw _ (List.mem_of_getElem? (i := 4) rfl)) (hw _ (List.mem_of_getElem? (i := 3) rfl)) (by decide) (by decide)) (g := (mkF m 28 #[.val (.int vi0), .val (.int vi1), .val (.int vi2)] [(.int vi2)])) rfl (by rw [hml]; rfl) (argsL := [(.int vi2)]) (rest := []) (lenOf pd1 rfl) rfl (by show 2 * 0 + _ ≤ _; exact Nat.le_of_eq rfl) (hb hby at_28) (fun _ _ => ⟨rfl, e0, (by decide : 0 + 0 ≤ _), (by decide : 0 + 0 ≤ _)⟩)
  dsimp only [Pt.U, Pt.locs, Pt.cells, Pt.slots] at X1 l1 y1 z1 st1 hQ1
  subst l1 y1 z1
  obtain ⟨rfl, N1q, e1⟩ := hQ1
  have N1 := Fr.app N0 N1q
  refine Rch.step (st' := T1.setTop (mkF m 31 #[.val (.int vi0), .val (.int vi1), .val (.int vi2)] [(.int (f1_0 vi2))])) (fun _ hr => st1 _ hr) ?_
  refine Rch.step (st' := T1.setTop (mkF m 32 #[.val (.int vi0), .val (.int vi1), .val (.int vi2)] [(.int vi2), (.int (f1_0 vi2))])) (fun _ hr => XS.iloadN X1.here hx rfl (hb hby at_31) rfl hr) ?_
  obtain ⟨_, _, ⟨T2, L2, k2, n2⟩, -, X2, ⟨Lc2, hQ2, l2, y2, z2⟩, st2⟩ := Jvm.LawKit.callS X1 hx (y := (⟨"com/example/meticulous_unifier/meticulousunifier/LexiconIsDigitPinLaw", "oneOfTheTen", "(C)Z"⟩ : MethodName)) hown (mvT hZ (hw _ (List.mem_of_getElem? (i := 5) rfl))) (mvT hZ (hw _ (List.mem_of_getElem? (i := 6) rfl))) (mvT hZ (hw _ (List.mem_of_getElem? (i := 7) rfl))) (mvT hZ (hw _ (List.mem_of_getElem? (i := 8) rfl))) (by decide) (backOf (W := 1) (rm2 l Z a0 hw [] vi2 h0 n0 Z0) hZ (hw _ (List.mem_of_getElem? (i := 8) rfl)) (hw _ (List.mem_of_getElem? (i := 7) rfl)) (by decide) (by decide)) (g := (mkF m 32 #[.val (.int vi0), .val (.int vi1), .val (.int vi2)] [(.int vi2), (.int (f1_0 vi2))])) rfl (by rw [hml]; rfl) (argsL := [(.int vi2)]) (rest := [(.int (f1_0 vi2))]) (lenOf pd2 rfl) rfl (by show 2 * 0 + _ ≤ _; exact Nat.le_of_eq rfl) (hb hby at_32) (fun _ _ => ⟨rfl, e1, (by decide : 0 + 0 ≤ _), (by decide : 0 + 0 ≤ _)⟩)
  dsimp only [Pt.U, Pt.locs, Pt.cells, Pt.slots] at X2 l2 y2 z2 st2 hQ2
  subst l2 y2 z2
  obtain ⟨rfl, N2q, e2⟩ := hQ2
  have N2 := Fr.app N1 N2q
  refine Rch.step (st' := T2.setTop (mkF m 35 #[.val (.int vi0), .val (.int vi1), .val (.int vi2)] [(.int (f2_0 vi2)), (.int (f1_0 vi2))])) (fun _ hr => st2 _ hr) ?_
  by_cases hc3 : (f1_0 vi2) = (f2_0 vi2)
  · rw [if_pos hc3]
    refine Rch.step (st' := T2.setTop (mkF m 38 #[.val (.int vi0), .val (.int vi1), .val (.int vi2)] [])) (fun _ hr => XS.icmpNo X2.here hx rfl (hb hby at_35) rfl (teq hc3).2 hr) ?_
    refine Rch.step (st' := T2.setTop (mkF m 39 #[.val (.int vi0), .val (.int vi1), .val (.int vi2)] [(.int (1 : Int32))])) (fun _ hr => XS.iconst X2.here hx rfl (hb hby at_38) hr) ?_
    refine Rch.step (st' := T2.setTop (mkF m 43 #[.val (.int vi0), .val (.int vi1), .val (.int vi2)] [(.int (1 : Int32))])) (fun _ hr => XS.goto X2.here hx rfl (pc0 := 39) (pc' := 43) rfl (hb hby at_39) (by decide) (by decide) hr) ?_
    exact Rch.retN X2 hx (t := .boolean) hret hlk (by simp) (hb hby at_43) (by decide) (by decide) ⟨rfl, N2, e2⟩
  · rw [if_neg hc3]
    refine Rch.step (st' := T2.setTop (mkF m 42 #[.val (.int vi0), .val (.int vi1), .val (.int vi2)] [])) (fun _ hr => XS.icmpYes X2.here hx rfl (pc0 := 35) (pc' := 42) rfl (hb hby at_35) rfl (feq hc3).2 (by decide) (by decide) hr) ?_
    refine Rch.step (st' := T2.setTop (mkF m 43 #[.val (.int vi0), .val (.int vi1), .val (.int vi2)] [(.int (0 : Int32))])) (fun _ hr => XS.iconst X2.here hx rfl (hb hby at_42) hr) ?_
    exact Rch.retN X2 hx (t := .boolean) hret hlk (by simp) (hb hby at_43) (by decide) (by decide) ⟨rfl, N2, e2⟩
set_option maxRecDepth 65536 in
set_option maxHeartbeats 40000000 in
theorem b0_0 {p : Program} {l : Launch} {e : Env} {s : State} {m : MethodId} {args : Array Value} {below : List Frame} {meth : Method} {c : Code} {T : State} {locs : List Loc} {Z : State} {a0 : Array Value} {h0 : Heap} {n0 : Nat} (cx : Cx room_1 code 3 "com/example/meticulous_unifier/meticulousunifier/LexiconIsDigitPinLaw" (some .boolean) p l e s m args below meth c T locs 0 0 Z a0 h0 n0) (vi0 : Int32) (vi1 : Int32) :
    Rch p e below s 0 0 (T.setTop (mkF m 0 #[.val (.int vi0), .val (.int vi1), .unset] [])) (PI (f0_0 vi0 vi1) h0 n0) := by
  obtain ⟨X0, hx, hZ, hw, hby, hml, hown, hret, hlk, e0, Z0, N0⟩ := cx
  unfold f0_0
  refine Rch.step (st' := T.setTop (mkF m 1 #[.val (.int vi0), .val (.int vi1), .unset] [(.int vi0)])) (fun _ hr => XS.iloadN X0.here hx rfl (hb hby at_0) rfl hr) ?_
  refine Rch.step (st' := T.setTop (mkF m 2 #[.val (.int vi0), .val (.int vi1), .unset] [(.int (1 : Int32)), (.int vi0)])) (fun _ hr => XS.iconst X0.here hx rfl (hb hby at_1) hr) ?_
  refine Rch.step (st' := T.setTop (mkF m 3 #[.val (.int vi0), .val (.int vi1), .unset] [(.int (vi0 &&& (1 : Int32)))])) (fun _ hr => XS.iand X0.here hx rfl (hb hby at_2) rfl hr) ?_
  by_cases hc1 : (vi0 &&& (1 : Int32)) = (0 : Int32)
  · rw [if_pos hc1]
    refine Rch.step (st' := T.setTop (mkF m 21 #[.val (.int vi0), .val (.int vi1), .unset] [])) (fun _ hr => XS.ifYes X0.here hx rfl (pc0 := 3) (pc' := 21) rfl (hb hby at_3) rfl ((if0 _ _).trans (teq hc1).1) (by decide) (by decide) hr) ?_
    refine Rch.step (st' := T.setTop (mkF m 22 #[.val (.int vi0), .val (.int vi1), .unset] [(.int vi1)])) (fun _ hr => XS.iloadN X0.here hx rfl (hb hby at_21) rfl hr) ?_
    refine Rch.step (st' := T.setTop (mkF m 24 #[.val (.int vi0), .val (.int vi1), .unset] [(.int (65535 : Int32)), (.int vi1)])) (fun _ hr => X0.ldcInt hx hown (mvT hZ (hw _ (List.mem_of_getElem? (i := 0) rfl))) (g := (mkF m 22 #[.val (.int vi0), .val (.int vi1), .unset] [(.int vi1)])) rfl (hb hby at_22) _ hr) ?_
    refine Rch.step (st' := T.setTop (mkF m 25 #[.val (.int vi0), .val (.int vi1), .unset] [(.int (vi1 &&& (65535 : Int32)))])) (fun _ hr => XS.iand X0.here hx rfl (hb hby at_24) rfl hr) ?_
    refine Rch.step (st' := T.setTop (mkF m 26 #[.val (.int vi0), .val (.int vi1), .unset] [(.int ((vi1 &&& (65535 : Int32)).toUInt32.toUInt16.toUInt32.toInt32))])) (fun _ hr => XS.i2c X0.here hx rfl (hb hby at_25) rfl hr) ?_
    refine Rch.step (st' := T.setTop (mkF m 27 #[.val (.int vi0), .val (.int vi1), .val (.int ((vi1 &&& (65535 : Int32)).toUInt32.toUInt16.toUInt32.toInt32))] [])) (fun _ hr => XS.istoreN X0.here hx rfl (hb hby at_26) rfl (l' := #[.val (.int vi0), .val (.int vi1), .val (.int ((vi1 &&& (65535 : Int32)).toUInt32.toUInt16.toUInt32.toInt32))]) rfl hr) ?_
    exact b0_27 ⟨X0, hx, hZ, hw, hby, hml, hown, hret, hlk, e0, Z0, N0⟩ vi0 vi1 ((vi1 &&& (65535 : Int32)).toUInt32.toUInt16.toUInt32.toInt32)
  · rw [if_neg hc1]
    refine Rch.step (st' := T.setTop (mkF m 6 #[.val (.int vi0), .val (.int vi1), .unset] [])) (fun _ hr => XS.ifNo X0.here hx rfl (hb hby at_3) rfl ((if0 _ _).trans (feq hc1).1) hr) ?_
    refine Rch.step (st' := T.setTop (mkF m 8 #[.val (.int vi0), .val (.int vi1), .unset] [(.int (47 : Int32))])) (fun _ hr => XS.bipush X0.here hx rfl (hb hby at_6) hr) ?_
    refine Rch.step (st' := T.setTop (mkF m 9 #[.val (.int vi0), .val (.int vi1), .unset] [(.int vi1), (.int (47 : Int32))])) (fun _ hr => XS.iloadN X0.here hx rfl (hb hby at_8) rfl hr) ?_
    refine Rch.step (st' := T.setTop (mkF m 11 #[.val (.int vi0), .val (.int vi1), .unset] [(.int (2147483647 : Int32)), (.int vi1), (.int (47 : Int32))])) (fun _ hr => X0.ldcInt hx hown (mvT hZ (hw _ (List.mem_of_getElem? (i := 9) rfl))) (g := (mkF m 9 #[.val (.int vi0), .val (.int vi1), .unset] [(.int vi1), (.int (47 : Int32))])) rfl (hb hby at_9) _ hr) ?_
    refine Rch.step (st' := T.setTop (mkF m 12 #[.val (.int vi0), .val (.int vi1), .unset] [(.int (vi1 &&& (2147483647 : Int32))), (.int (47 : Int32))])) (fun _ hr => XS.iand X0.here hx rfl (hb hby at_11) rfl hr) ?_
    refine Rch.step (st' := T.setTop (mkF m 14 #[.val (.int vi0), .val (.int vi1), .unset] [(.int (12 : Int32)), (.int (vi1 &&& (2147483647 : Int32))), (.int (47 : Int32))])) (fun _ hr => XS.bipush X0.here hx rfl (hb hby at_12) hr) ?_
    refine Rch.step (st' := T.setTop (mkF m 15 #[.val (.int vi0), .val (.int vi1), .unset] [(.int ((vi1 &&& (2147483647 : Int32)) - ((vi1 &&& (2147483647 : Int32)) / (12 : Int32)) * (12 : Int32))), (.int (47 : Int32))])) (fun _ hr => XS.irem X0.here hx rfl (hb hby at_14) rfl (by decide) hr) ?_
    refine Rch.step (st' := T.setTop (mkF m 16 #[.val (.int vi0), .val (.int vi1), .unset] [(.int ((47 : Int32) + ((vi1 &&& (2147483647 : Int32)) - ((vi1 &&& (2147483647 : Int32)) / (12 : Int32)) * (12 : Int32))))])) (fun _ hr => XS.iadd X0.here hx rfl (hb hby at_15) rfl hr) ?_
    refine Rch.step (st' := T.setTop (mkF m 17 #[.val (.int vi0), .val (.int vi1), .unset] [(.int (((47 : Int32) + ((vi1 &&& (2147483647 : Int32)) - ((vi1 &&& (2147483647 : Int32)) / (12 : Int32)) * (12 : Int32))).toUInt32.toUInt16.toUInt32.toInt32))])) (fun _ hr => XS.i2c X0.here hx rfl (hb hby at_16) rfl hr) ?_
    refine Rch.step (st' := T.setTop (mkF m 18 #[.val (.int vi0), .val (.int vi1), .val (.int (((47 : Int32) + ((vi1 &&& (2147483647 : Int32)) - ((vi1 &&& (2147483647 : Int32)) / (12 : Int32)) * (12 : Int32))).toUInt32.toUInt16.toUInt32.toInt32))] [])) (fun _ hr => XS.istoreN X0.here hx rfl (hb hby at_17) rfl (l' := #[.val (.int vi0), .val (.int vi1), .val (.int (((47 : Int32) + ((vi1 &&& (2147483647 : Int32)) - ((vi1 &&& (2147483647 : Int32)) / (12 : Int32)) * (12 : Int32))).toUInt32.toUInt16.toUInt32.toInt32))]) rfl hr) ?_
    refine Rch.step (st' := T.setTop (mkF m 27 #[.val (.int vi0), .val (.int vi1), .val (.int (((47 : Int32) + ((vi1 &&& (2147483647 : Int32)) - ((vi1 &&& (2147483647 : Int32)) / (12 : Int32)) * (12 : Int32))).toUInt32.toUInt16.toUInt32.toInt32))] [])) (fun _ hr => XS.goto X0.here hx rfl (pc0 := 18) (pc' := 27) rfl (hb hby at_18) (by decide) (by decide) hr) ?_
    exact b0_27 ⟨X0, hx, hZ, hw, hby, hml, hown, hret, hlk, e0, Z0, N0⟩ vi0 vi1 (((47 : Int32) + ((vi1 &&& (2147483647 : Int32)) - ((vi1 &&& (2147483647 : Int32)) / (12 : Int32)) * (12 : Int32))).toUInt32.toUInt16.toUInt32.toInt32)
theorem ef0 (m : MethodId) (x0 : Int32) (x1 : Int32) : entryFrame m #[(.int x0), (.int x1)] maxLocals = mkF m 0 #[.val (.int x0), .val (.int x1), .unset] [] := by first | (simp [entryFrame, mkF, argsToLocals, Value.category, maxLocals]; done) | rfl
set_option maxRecDepth 65536 in
set_option maxHeartbeats 40000000 in
theorem rm0 (l : Launch) (Z : State) (a0 : Array Value) (hw : ∀ d ∈ tables_1, d.before a0 Z = true) (ws : List Jvm.Cond) (vi0 : Int32) (vi1 : Int32) (h0 : Heap) (n0 : Nat) (Z0 : n0 ≤ h0.size) :
    MetFree l x (head1 (Jvm.Cond.code x code maxLocals ret :: ws) room_1) (fun a U => a = #[(.int vi0), (.int vi1)] ∧ Z.Warmed39 U.vm ∧ U.heap = h0) (fun _ _ _ _ _ => True) (fun _ U o U' => ∃ v L, o = .returned v ∧ PI (f0_0 vi0 vi1) h0 n0 v U'.heap L ∧ FrameEnd U o U' L room_1.cells room_1.slots) := by
  refine MetFree.of_bodySF (plainFor_of_name pn0) hisR ?_
  intro p e s m args below meth c s₁ Bd hml0 hP hK
  obtain ⟨rfl, hZ, hh⟩ := hP
  have hown : s.vm.findClass "com/example/meticulous_unifier/meticulousunifier/LexiconIsDigitPinLaw" = some m.cls := findClass_of_methodNamed Bd.named
  have e0 : s₁.heap = h0 := by rw [← hh, Bd.state]; rfl
  obtain ⟨s₂, v, L, h1, h2, h3, h4, h5⟩ := b0_0 (T := s₁) ⟨Stand.of_body Bd, Bd.exec, hZ, hw, Bd.bytes, hml0, hown, Bd.returns, BodyLoose.notSynchronized Bd, e0, Z0, Fr.nil n0⟩ vi0 vi1
  exact ⟨s₂, .returned v, castTop (ef0 m vi0 vi1) h1, h2, h3, v, L, rfl, h4, h5⟩
theorem own_fin : ∀ k : Fin 10, f1_0 (Int32.ofNat (48 + k.val)) = f2_0 (Int32.ofNat (48 + k.val)) := by decide +kernel
theorem own_eqv (c : Int32) : f1_0 c = f2_0 c := by
  by_cases h : 48 ≤ c.toInt ∧ c.toInt ≤ 57
  · have q : c = Int32.ofNat (48 + (c.toInt - 48).toNat) := by
      apply Int32.toInt_inj.mp
      rw [Int32.toInt_ofNat_of_lt (by omega)]
      omega
    rw [q]
    exact own_fin ⟨(c.toInt - 48).toNat, by omega⟩
  · have n : ∀ k : Int32, 48 ≤ k.toInt → k.toInt ≤ 57 → ¬ c = k := fun k h1 h2 q => h (by rw [q]; exact ⟨h1, h2⟩)
    have e2 : f2_0 c = 0 := by
      unfold f2_0
      rw [if_neg (n 48 (by decide) (by decide)), if_neg (n 49 (by decide) (by decide)), if_neg (n 50 (by decide) (by decide)), if_neg (n 51 (by decide) (by decide)), if_neg (n 52 (by decide) (by decide)), if_neg (n 53 (by decide) (by decide)), if_neg (n 54 (by decide) (by decide)), if_neg (n 55 (by decide) (by decide)), if_neg (n 56 (by decide) (by decide)), if_neg (n 57 (by decide) (by decide))]
    rw [e2]
    unfold f1_0
    by_cases h1 : c < 48
    · rw [if_pos h1]
    · rw [if_neg h1, if_pos]
      rw [Int32.lt_iff_toInt_lt] at h1 ⊢
      simp only [Int32.reduceToInt] at h1 ⊢
      omega
theorem own_law (a b : Int32) : f0_0 a b = 1 := by
  unfold f0_0 f0_27
  rw [own_eqv, own_eqv, if_pos rfl, if_pos rfl]
  split <;> rfl
set_option maxRecDepth 65536 in
set_option maxHeartbeats 40000000 in
theorem comes_1 {Post : Tables → Env → Array Value → State → Outcome → State → Prop} (hpost : ∀ tb e args s v u, (limb_1_1.after args s (.returned v) u = true ∧ limb_1_2.after args s (.returned v) u = true ∧ True) → FrameEnd s (.returned v) u (Jvm.fieldLocs frame_1_writes args s ++ Jvm.arrayLocs frame_1_arrays args s ++ Jvm.staticLocs frame_1_statics s) 0 0 → Post tb e args s (.returned v) u) :
    ArmFor flags0 classFile x code maxLocals ret World_1 tables_1 room_1 Calls_1 rest_1 Pre_1 Post := by
  intro l hfl _ _ p e ha hc hk s m args below hf hA hF happ hP
  obtain ⟨hcalls, hrest, hpre⟩ := hP
  obtain ⟨-, -, -, hnamed, -, -, -, hat⟩ := (Spec.applies_iff hf).mp happ
  obtain ⟨hg, hn⟩ := and_e (Cond.before_iff.mp (show (Jvm.Cond.and given_1 narrow_1).before args s = true from hpre))
  obtain ⟨g1, g2⟩ := and_e hg
  obtain ⟨g3, g4⟩ := and_e g2
  obtain ⟨w0, w1, rfl⟩ : ∃ w0 w1 : Value, args = #[w0, w1] := by
    have hs : args.size = 2 := by simpa [Cond.value, given_1] using g1
    obtain ⟨L⟩ := args
    match L, hs with
    | [w0, w1], _ => exact ⟨w0, w1, rfl⟩
  have hw := fun d (hd : d ∈ tables_1) => atoms_spec (ws := Jvm.Cond.code x code maxLocals ret :: tables_1) hat d (List.mem_cons_of_mem _ hd)
  obtain ⟨i0, ei0⟩ := is_v g3
  obtain rfl : w0 = (.int i0) := Option.some.inj ei0
  obtain ⟨i1, ei1⟩ := is_v g4
  obtain rfl : w1 = (.int i1) := Option.some.inj ei1
  obtain ⟨n, o, h1, h2, h3, _, L, rfl, ⟨rfl, N, -⟩, hq⟩ := rm0 l s _ hw tables_1 i0 i1 s.heap s.heap.size (Nat.le_refl _) p e ha hc hk s m _ below hf ((Spec.applies_iff_loose hf).mp happ).1 ⟨rfl, State.Warmed39.refl s, rfl⟩ trivial
  have hlaw := own_law i0 i1
  refine ⟨n, _, h1, h2, h3, hpost _ _ _ _ _ _ ⟨Cond.after_iff.mpr rfl, Cond.after_iff.mpr (eq_i res_at (Term.int_eval (1)) (by rw [hlaw])), trivial⟩ ⟨hq.1, hq.2.1, (hq.2.2.sift fun y hy => Or.inr (N y hy)).mono (by decide) (by decide)⟩⟩
theorem main_1_1 : Claimed_1_1 := comes_1 fun _ _ _ _ _ _ h hF => ⟨h.1, hF⟩
theorem main_1_2 : Claimed_1_2 := comes_1 fun _ _ _ _ _ _ h hF => ⟨h.2.1, hF⟩
end Jvm.Pilot.@@N@@
namespace Jvm.Pilot.@@N@@
open Jvm Jvm.ClassFile Sem Op Lib Jvm.Free Jvm.Stand Jvm.Pilot.@@N@@.Jvm.D
/-! MADE BY PROGRAM (witnessworld.py) out of the Statement's table words and the real class files: 9 classes; the members and pool entries that the words name. The judged class is class 1, her method 2. -/
namespace start1
open Jvm.ClassFile
def u (s : String) : CpInfo := .utf8 (stringToUtf16 s)
/-- a pool by its gaps: so many unusable entries, then the entry; so many at the end -/
def gap : Nat → List CpInfo → List CpInfo
  | 0, r => r
  | n + 1, r => .unusable :: gap n r
def poolList (es : List (Nat × CpInfo)) (last : Nat) : List CpInfo := es.foldr (fun e r => gap e.1 (e.2 :: r)) (gap last [])
def pool (es : List (Nat × CpInfo)) (last : Nat) : Array CpInfo := ⟨poolList es last⟩
def fileOf (pool : Array CpInfo) (this : Nat) (attrs : Array Attribute := #[]) (ms : Array MethodInfo := #[]) (fl : Nat := 33) (sup : Nat := 0) (ifs : Array Nat := #[]) (fds : Array FieldInfo := #[]) : ClassFile where
  minorVersion := 0
  majorVersion := 65
  constantPool := pool
  accessFlags := fl
  thisClass := this
  superClass := sup
  interfaces := ifs
  fields := fds
  methods := ms
  attributes := attrs
def plain (name : String) (sup : Option ClassId) : Class where
  name := name
  kind := .ordinary
  loader := none
  accessFlags := 33
  super := sup
  interfaces := #[]
  cf := none
  fields := #[]
  methods := #[]
  instanceTypes := #[]
  staticTypes := #[]
  resolved := #[]
  callSites := []
  init := .initialized
  statics := none
  mirror := none

def pool0 : Array CpInfo := pool [(5, u "<init>"), (0, u "()V"), (1, .class_ 10), (1, u "java/lang/Object")] 113

def k0m0 : Method := { name := "<init>", desc := "()V", sig := { parameters := [], returnType := none }, accessFlags := 1, code := none }
/-- java/lang/Object -/
def k0 : Class := { plain "java/lang/Object" none with
  accessFlags := 33
  interfaces := #[]
  cf := some (fileOf pool0 8 #[] #[{ accessFlags := 1, nameIndex := 5, descriptorIndex := 6, attributes := #[] }] 33 0 #[] #[])
  fields := #[]
  methods := #[k0m0]
  instanceTypes := #[]
  staticTypes := #[]
  resolved := Array.replicate 124 none
  statics := none }

def pool1 : Array CpInfo := pool [(2, .class_ 4), (1, u "java/lang/Object"), (0, u "<init>"), (0, u "()V"), (0, .integer 2147483647), (0, .integer 65535), (0, .methodref 10 11), (0, .class_ 12), (0, .nameAndType 13 14), (0, u "com/example/meticulous_unifier/meticulousunifier/Lexicon"), (0, u "isDigit"), (0, u "(C)Z"), (0, .methodref 16 17), (0, .class_ 18), (0, .nameAndType 19 14), (0, u "com/example/meticulous_unifier/meticulousunifier/LexiconIsDigitPinLaw"), (0, u "oneOfTheTen"), (3, u "law"), (0, u "(II)Z")] 2

def k1m0 : Method := { name := "<init>", desc := "()V", sig := { parameters := [], returnType := none }, accessFlags := 2, code := none }
def k1c1 : Code := { maxStack := 2, maxLocals := 1, code := method_2_code, exceptionTable := #[], attributes := #[] }
def k1m1 : Method := { name := "oneOfTheTen", desc := "(C)Z", sig := { parameters := [.char], returnType := some .boolean }, accessFlags := 10, code := some k1c1 }
def k1c2 : Code := { maxStack := 3, maxLocals := 3, code := code, exceptionTable := #[], attributes := #[] }
def k1m2 : Method := { name := "law", desc := "(II)Z", sig := { parameters := [.int, .int], returnType := some .boolean }, accessFlags := 9, code := some k1c2 }
/-- com/example/meticulous_unifier/meticulousunifier/LexiconIsDigitPinLaw -/
def k1 : Class := { plain "com/example/meticulous_unifier/meticulousunifier/LexiconIsDigitPinLaw" (some 0) with
  accessFlags := 49
  interfaces := #[]
  cf := some (fileOf pool1 16 #[] #[{ accessFlags := 2, nameIndex := 5, descriptorIndex := 6, attributes := #[] }, { accessFlags := 10, nameIndex := 19, descriptorIndex := 14, attributes := #[] }, { accessFlags := 9, nameIndex := 23, descriptorIndex := 24, attributes := #[] }] 49 2 #[] #[])
  fields := #[]
  methods := #[k1m0, k1m1, k1m2]
  instanceTypes := #[]
  staticTypes := #[]
  resolved := Array.replicate 27 none
  statics := none }

def pool2 : Array CpInfo := pool [(2, .class_ 4), (1, u "java/lang/Object"), (0, u "<init>"), (0, u "()V"), (1, .class_ 10), (1, u "com/example/meticulous_unifier/meticulousunifier/Lexicon"), (1, u "(C)Z"), (5, u "isDigit"), (33, .class_ 54), (1, u "com/example/meticulous_unifier/meticulousunifier/Lexicon$CharacterClass"), (10, u "EMPTY_LIST"), (0, u "Lcom/example/meticulous_unifier/meticulousunifier/Symbol;"), (4, u "LIST_CELL"), (0, u "ANONYMOUS"), (0, u "Ljava/lang/String;")] 31

def k2m0 : Method := { name := "<init>", desc := "()V", sig := { parameters := [], returnType := none }, accessFlags := 2, code := none }
def k2c1 : Code := { maxStack := 2, maxLocals := 1, code := prog_5_method_4_code, exceptionTable := #[], attributes := #[] }
def k2m1 : Method := { name := "isDigit", desc := "(C)Z", sig := { parameters := [.char], returnType := some .boolean }, accessFlags := 8, code := some k2c1 }
/-- com/example/meticulous_unifier/meticulousunifier/Lexicon -/
def k2 : Class := { plain "com/example/meticulous_unifier/meticulousunifier/Lexicon" (some 0) with
  accessFlags := 48
  interfaces := #[]
  cf := some (fileOf pool2 8 #[.nestMembers #[52]] #[{ accessFlags := 2, nameIndex := 5, descriptorIndex := 6, attributes := #[] }, { accessFlags := 8, nameIndex := 18, descriptorIndex := 12, attributes := #[] }] 48 2 #[] #[{ accessFlags := 24, nameIndex := 65, descriptorIndex := 66, attributes := #[] }, { accessFlags := 24, nameIndex := 71, descriptorIndex := 66, attributes := #[] }, { accessFlags := 24, nameIndex := 72, descriptorIndex := 73, attributes := #[] }])
  fields := #[{ name := "EMPTY_LIST", type := (.object "com/example/meticulous_unifier/meticulousunifier/Symbol"), accessFlags := 24, slot := 0, constantValue := 0 }, { name := "LIST_CELL", type := (.object "com/example/meticulous_unifier/meticulousunifier/Symbol"), accessFlags := 24, slot := 1, constantValue := 0 }, { name := "ANONYMOUS", type := (.object "java/lang/String"), accessFlags := 24, slot := 2, constantValue := 0 }]
  methods := #[k2m0, k2m1]
  instanceTypes := #[]
  staticTypes := #[(.object "com/example/meticulous_unifier/meticulousunifier/Symbol"), (.object "com/example/meticulous_unifier/meticulousunifier/Symbol"), (.object "java/lang/String")]
  resolved := Array.replicate 105 none
  statics := none }

def pool3 : Array CpInfo := pool [(1, u "java/lang/Cloneable"), (0, .class_ 1), (0, u "java/lang/Object"), (0, .class_ 3)] 3

/-- java/lang/Cloneable -/
def k3 : Class := { plain "java/lang/Cloneable" (some 0) with
  accessFlags := 1537
  interfaces := #[]
  cf := some (fileOf pool3 2 #[] #[] 1537 4 #[] #[])
  fields := #[]
  methods := #[]
  instanceTypes := #[]
  staticTypes := #[]
  resolved := Array.replicate 8 none
  statics := none }

def pool4 : Array CpInfo := pool [(1, u "java/io/Serializable"), (0, .class_ 1), (0, u "java/lang/Object"), (0, .class_ 3)] 3

/-- java/io/Serializable -/
def k4 : Class := { plain "java/io/Serializable" (some 0) with
  accessFlags := 1537
  interfaces := #[]
  cf := some (fileOf pool4 2 #[] #[] 1537 4 #[] #[])
  fields := #[]
  methods := #[]
  instanceTypes := #[]
  staticTypes := #[]
  resolved := Array.replicate 8 none
  statics := none }

/-- the primitive byte -/
def k5 : Class := { plain "byte" none with kind := .primitive 'B', accessFlags := 0x411 }
/-- [B -/
def k6 : Class := { plain "[B" (some 0) with kind := .array 5 .byte, interfaces := #[3, 4], accessFlags := 1041 }

/-- the primitive int -/
def k7 : Class := { plain "int" none with kind := .primitive 'I', accessFlags := 0x411 }
/-- [I -/
def k8 : Class := { plain "[I" (some 0) with kind := .array 7 .int, interfaces := #[3, 4], accessFlags := 1041 }

def heap : Heap := #[]
def classes : Array Class := #[k0, k1, k2, k3, k4, k5, k6, k7, k8]
def interned : List (Array UInt16 × Addr) := []
def slotsUsed : Nat := 0
def theMethod : MethodId := ⟨1, 2⟩
def args0 : Array Value := #[.int 5, .int 7]
def aboutOver (below : List Frame) : State where
  vm := { classes := classes, interned := interned.toArray }
  heap := heap
  slotsUsed := slotsUsed
  threads := #[{ frames := .invoking theMethod args0 :: below }]
def below0 : List Frame := [.native { method := ⟨0, 0⟩, args := #[] }]
def about1 : State := aboutOver below0
def p0 : Program := .bare "" "" ""
def e0 : Env := launch0.env 0 0 0
theorem w_frames : about1.frames = Frame.invoking theMethod args0 :: below0 := rfl
set_option maxRecDepth 65536 in
theorem w_args : argsFit about1.vm theMethod args0 = true := by decide +kernel
set_option maxRecDepth 65536 in
theorem w_heap : heapFits about1 = true := by decide +kernel
set_option maxRecDepth 65536 in
theorem w_runnable : about1.curStatus? = some .runnable := by decide +kernel
set_option maxRecDepth 65536 in
theorem w_alone : about1.alone = true := by decide +kernel
set_option maxRecDepth 65536 in
theorem w_named : about1.methodNamed? x = some theMethod := by decide +kernel
set_option maxRecDepth 65536 in
theorem w_hears : about1.hears theMethod below0 = true := by decide +kernel
set_option maxRecDepth 65536 in
theorem w_ripe : about1.ripe theMethod args0 below0 = true := by decide +kernel
theorem w_running : about1.status = .running := rfl
set_option maxRecDepth 65536 in
theorem w_room : about1.hasRoom e0.platform room_1 = true :=
  launch0.hasRoom_least _ room_1 (by decide +kernel) (by decide +kernel) (by decide +kernel) (by decide +kernel) (by decide +kernel) (by decide +kernel)
theorem allAtoms_all (ts : List Jvm.Cond) (a : Array Jvm.Value) (st : Jvm.State) : (allAtoms ts).before a st = ts.all (fun c => c.before a st) := by
  induction ts with
  | nil => rfl
  | cons c t ih =>
    show (Jvm.Cond.and c (allAtoms t)).before a st = _
    rw [Jvm.Cond.before_and, ih, List.all_cons]
def words1 : List Jvm.Cond := Jvm.Cond.code x code maxLocals ret :: tables_1
/-- a 'code' word, met by the world's own term for the bytes: nothing is compared byte by byte -/
theorem code_word {y : MethodName} {bytes : ByteArray} {mx : Nat} {rt : Option FieldType} {a : Array Value} {s : State} {m : MethodId} {meth : Method} {c : Code} (h1 : s.methodNamed? y = some m) (h2 : s.vm.method? m = some meth) (h3 : meth.code = some c) (h4 : c.code = bytes)
    (h5 : (c.maxLocals == mx && c.exceptionTable.isEmpty && decide (c.maxStack ≤ mostOperands) && decide (meth.sig.returnType = rt) && !meth.locks && decide (parseMethodDescriptor y.desc = some meth.sig)) = true) : (Jvm.Cond.code y bytes mx rt).before a s = true := by
  simp only [Bool.and_eq_true, beq_iff_eq, Bool.not_eq_true', decide_eq_true_eq] at h5
  obtain ⟨⟨⟨⟨⟨g1, g2⟩, g3⟩, g4⟩, g5⟩, g6⟩ := h5
  simp [Cond.before, Cond.holds, Cond.value, h1, h2, h3, h4, g1, g2, g3, g4, g5, g6]
def isCode : Jvm.Cond → Bool
  | .code _ _ _ _ => true
  | _ => false
theorem all_split {L : List Jvm.Cond} {P : Jvm.Cond → Bool} (h1 : L.all (fun c => isCode c || P c) = true) (h2 : ∀ c ∈ L.filter isCode, P c = true) : L.all P = true := by
  refine List.all_eq_true.mpr fun c hc => ?_
  have h := List.all_eq_true.mp h1 c hc
  rcases Bool.eq_false_or_eq_true (isCode c) with hi | hi
  · exact h2 c (List.mem_filter.mpr ⟨hc, hi⟩)
  · simpa [hi] using h
set_option maxRecDepth 65536 in
theorem w_c0 : (Jvm.Cond.code x code maxLocals ret).before args0 about1 = true := code_word (m := ⟨1, 2⟩) (meth := k1m2) (c := k1c2) (by decide +kernel) rfl rfl rfl (by decide +kernel)
set_option maxRecDepth 65536 in
theorem w_c1 : (Jvm.Cond.code ({ cls := "com/example/meticulous_unifier/meticulousunifier/Lexicon", name := "isDigit", desc := "(C)Z" } : Jvm.MethodName) prog_5_method_4_code (1 : Nat) (Option.some Jvm.ClassFile.FieldType.boolean)).before args0 about1 = true := code_word (m := ⟨2, 1⟩) (meth := k2m1) (c := k2c1) (by decide +kernel) rfl rfl rfl (by decide +kernel)
set_option maxRecDepth 65536 in
theorem w_c2 : (Jvm.Cond.code ({ cls := "com/example/meticulous_unifier/meticulousunifier/LexiconIsDigitPinLaw", name := "oneOfTheTen", desc := "(C)Z" } : Jvm.MethodName) method_2_code (1 : Nat) (Option.some Jvm.ClassFile.FieldType.boolean)).before args0 about1 = true := code_word (m := ⟨1, 1⟩) (meth := k1m1) (c := k1c1) (by decide +kernel) rfl rfl rfl (by decide +kernel)
def codes1 : List Jvm.Cond := [Jvm.Cond.code x code maxLocals ret, Jvm.Cond.code ({ cls := "com/example/meticulous_unifier/meticulousunifier/Lexicon", name := "isDigit", desc := "(C)Z" } : Jvm.MethodName) prog_5_method_4_code (1 : Nat) (Option.some Jvm.ClassFile.FieldType.boolean), Jvm.Cond.code ({ cls := "com/example/meticulous_unifier/meticulousunifier/LexiconIsDigitPinLaw", name := "oneOfTheTen", desc := "(C)Z" } : Jvm.MethodName) method_2_code (1 : Nat) (Option.some Jvm.ClassFile.FieldType.boolean)]
set_option maxRecDepth 65536 in
theorem codes_eq : words1.filter isCode = codes1 := rfl
theorem w_codes : ∀ c ∈ words1.filter isCode, c.before args0 about1 = true := by
  rw [codes_eq]
  intro c hc
  simp only [codes1, List.mem_cons, List.not_mem_nil, or_false] at hc
  rcases hc with rfl | rfl | rfl
  · exact w_c0
  · exact w_c1
  · exact w_c2
set_option maxRecDepth 65536 in
theorem w_t1 : words1.all (fun c => isCode c || c.before args0 about1) = true := by decide +kernel
theorem w_tables : (allAtoms (Jvm.Cond.code x code maxLocals ret :: tables_1)).before args0 about1 = true := by
  rw [allAtoms_all]
  show words1.all (fun c => c.before args0 about1) = true
  refine all_split ?_ w_codes
  rw [w_t1]
set_option maxRecDepth 65536 in
theorem w_case : (Jvm.Cond.and given_1 narrow_1).before args0 about1 = true := by decide +kernel
theorem w_applies : (headSpec (Jvm.Cond.code x code maxLocals ret :: tables_1) room_1).applies x e0.platform about1 = true :=
  (Spec.applies_iff w_frames).mpr ⟨w_running, w_runnable, w_alone, w_named, w_hears, w_ripe, w_room, w_tables⟩
theorem atStart : AtStart classFile x code maxLocals ret World_1 tables_1 room_1 Calls_1 rest_1 Pre_1 launch0 p0 e0 about1 theMethod args0 below0 :=
  ⟨lists_1, trivial, launch0.admits_env _ _ _, launch0.least_env, fairChoices_fair.cas, fairChoices_fair.clock, w_frames, w_args, w_heap, w_applies, trivial, trivial, w_case⟩
end start1
theorem witness_1 : WitnessClaimed_1 := ⟨start1.p0, start1.e0, start1.about1, start1.theMethod, start1.args0, start1.below0, start1.atStart⟩
end Jvm.Pilot.@@N@@
