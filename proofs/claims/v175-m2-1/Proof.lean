import JvmDerived
import JvmDerived.Pilot.@@N@@Statement
import JvmDerived.Pilot.@@N@@Code
set_option linter.unusedVariables false
set_option linter.unusedSimpArgs false
namespace Jvm.RoadKit
open Sem ClassFile Op Lib Jvm.Stand Jvm.Free Jvm.LawKit
section New
variable {p : Program} {l : Launch} {e : Env} {R : Room} {s : State} {m : MethodId} {args : Array Value} {below : List Frame} {meth : Method} {c : Code} {T : State} {locs : List Loc} {cells slots : Nat}
theorem retI (X : Stand p l e R s m args below meth c T locs cells slots) (hx : p.tables.exec = Jvm.exec) {pc : Nat} {Ls : Array Slot} {z : Int32} {rest : List Value} (hret : meth.sig.returnType = some .int) (hd : decode c.code pc = .ok (.ireturn, 1)) {fs : List Frame}
    (hl : ∀ (f : JFrame) (acts : List Action), f.method = m → f.locked = none → f.entered = [] → (doReturn e (T.setTop f) acts (some (.int z))).1 = T.setFrames fs) : Steps p.tables e below (T.setTop (mkF m pc Ls (.int z :: rest))) (T.setFrames fs) := by
  have hm' : T.vm.method? m = some meth := X.method'
  have hn : narrow .int (.int z) = .int z := rfl
  show Steps p.tables e below (T.setTop { method := m, pc := pc, locals := Ls, stack := _ :: rest, locked := none }) _
  jvm_step X.here [X.here.top, hx, hd, hm', hret, hn]
  first | (intro acts; rw [hl _ acts rfl rfl rfl]) | rw [hl _ _ rfl rfl rfl]
  exact Steps.refl _
end New
end Jvm.RoadKit
namespace Jvm.Pilot.@@N@@
open Jvm Jvm.ClassFile Sem Op Lib Jvm.Free Jvm.Stand Jvm.LawKit Jvm.RoadKit Bundle Jvm.Pilot.@@N@@.Jvm.D

def Rch (p : Program) (e : Env) (below : List Frame) (s : State) (C S : Nat) (st : State) (K : Option Value → Heap → List Loc → Prop) : Prop :=
  ∃ s₂ v L, Steps p.tables e below st s₂ ∧ s₂.status = .running ∧ Ended s₂ below (.returned v) ∧ K v s₂.heap L ∧ FrameEnd s (.returned v) s₂ L C S
section Own
variable {p : Program} {l : Launch} {e : Env} {R : Room} {s : State} {m : MethodId} {args : Array Value} {below : List Frame} {meth : Method} {c : Code} {T : State} {locs : List Loc} {cells slots C S : Nat} {K : Option Value → Heap → List Loc → Prop}
theorem Rch.step {st st' : State} (h : ∀ t, Steps p.tables e below st' t → Steps p.tables e below st t) (k : Rch p e below s C S st' K) : Rch p e below s C S st K := by
  obtain ⟨s₂, v, L, h1, h2⟩ := k
  exact ⟨s₂, v, L, h _ h1, h2⟩
theorem Rch.imp {st : State} {K' : Option Value → Heap → List Loc → Prop} (h : ∀ v hh L, K v hh L → K' v hh L) (k : Rch p e below s C S st K) : Rch p e below s C S st K' := by
  obtain ⟨s₂, v, L, h1, h2, h3, h4, h5⟩ := k
  exact ⟨s₂, v, L, h1, h2, h3, h _ _ _ h4, h5⟩
theorem Rch.retI (X : Stand p l e R s m args below meth c T locs cells slots) (hx : p.tables.exec = Jvm.exec) (hret : meth.sig.returnType = some .int) (hlk : meth.locks = false) {pc : Nat} {Ls : Array Slot} {z : Int32} {rest : List Value} (hd : decode c.code pc = .ok (.ireturn, 1)) (hC : cells ≤ C) (hS : slots ≤ S) (hK : K (some (.int z)) T.heap locs) :
    Rch p e below s C S (T.setTop (mkF m pc Ls (.int z :: rest))) K := by
  obtain ⟨fs, hr, hrun, hended, hW, hsame⟩ := X.leave (v := some (.int z)) (fun h => by rw [hret] at h; cases h) hlk
  exact ⟨_, _, _, Jvm.RoadKit.retI X hx hret hd hr, hrun, hended, hK, ⟨_, rfl⟩, hW, hsame.mono hC hS⟩
theorem Rch.retN (X : Stand p l e R s m args below meth c T locs cells slots) (hx : p.tables.exec = Jvm.exec) {t : FieldType} (hret : meth.sig.returnType = some t) (hlk : meth.locks = false) (ht : t = .boolean ∨ t = .byte ∨ t = .char ∨ t = .short) {pc : Nat} {Ls : Array Slot} {z : Int32} {rest : List Value} (hd : decode c.code pc = .ok (.ireturn, 1)) (hC : cells ≤ C) (hS : slots ≤ S) (hK : K (some (.int (nar t z))) T.heap locs) :
    Rch p e below s C S (T.setTop (mkF m pc Ls (.int z :: rest))) K := by
  obtain ⟨fs, hr, hrun, hended, hW, hsame⟩ := X.leave (v := some (.int (nar t z))) (fun h => by rw [hret] at h; cases h) hlk
  exact ⟨_, _, _, Jvm.RoadKit.retN X hx hret ht hd hr, hrun, hended, hK, ⟨_, rfl⟩, hW, hsame.mono hC hS⟩
theorem Rch.retJ (X : Stand p l e R s m args below meth c T locs cells slots) (hx : p.tables.exec = Jvm.exec) (hret : meth.sig.returnType = some .long) (hlk : meth.locks = false) {pc : Nat} {Ls : Array Slot} {z : Int64} (hd : decode c.code pc = .ok (.lreturn, 1)) (hC : cells ≤ C) (hS : slots ≤ S) (hK : K (some (.long z)) T.heap locs) :
    Rch p e below s C S (T.setTop (mkF m pc Ls [.long z])) K := by
  obtain ⟨fs, hr, hrun, hended, hW, hsame⟩ := X.leave (v := some (.long z)) (fun h => by rw [hret] at h; cases h) hlk
  exact ⟨_, _, _, X.lreturnOut hx hret hd hr, hrun, hended, hK, ⟨_, rfl⟩, hW, hsame.mono hC hS⟩
theorem Rch.retV (X : Stand p l e R s m args below meth c T locs cells slots) (hx : p.tables.exec = Jvm.exec) (hret : meth.sig.returnType = none) (hlk : meth.locks = false) {pc : Nat} {Ls : Array Slot} (hd : decode c.code pc = .ok (.return_, 1)) (hC : cells ≤ C) (hS : slots ≤ S) (hK : K none T.heap locs) :
    Rch p e below s C S (T.setTop (mkF m pc Ls [])) K := by
  obtain ⟨fs, hr, hrun, hended, hW, hsame⟩ := X.leave (v := none) (fun _ => rfl) hlk
  exact ⟨_, _, _, X.returnOut hx hret hd hr, hrun, hended, hK, ⟨_, rfl⟩, hW, hsame.mono hC hS⟩
end Own
def PI (z : Int32) (h0 : Heap) (n0 : Nat) : Option Value → Heap → List Loc → Prop := fun v h L => v = some (.int z) ∧ Fr n0 L ∧ h = h0
def PJ (z : Int64) (h0 : Heap) (n0 : Nat) : Option Value → Heap → List Loc → Prop := fun v h L => v = some (.long z) ∧ Fr n0 L ∧ h = h0
def Cx (R : Room) (bytes : ByteArray) (ml : Nat) (own : String) (rt : Option FieldType) (p : Program) (l : Launch) (e : Env) (s : State) (m : MethodId) (args : Array Value) (below : List Frame) (meth : Method) (c : Code) (T : State) (locs : List Loc) (cells slots : Nat) (Z : State) (a0 : Array Value) (h0 : Heap) (n0 : Nat) : Prop :=
  Stand p l e R s m args below meth c T locs cells slots ∧ p.tables.exec = Jvm.exec ∧ Z.Warmed39 s.vm ∧ (∀ d ∈ tables_1, d.before a0 Z = true) ∧ c.code = bytes ∧ c.maxLocals = ml ∧ s.vm.findClass own = some m.cls ∧ meth.sig.returnType = rt ∧ meth.locks = false ∧ T.heap = h0 ∧ n0 ≤ h0.size ∧ Fr n0 locs
-- body 1
theorem d1_0 : decode prog_18_method_11_code 0 = .ok (.iload_n 0, 1) := by decide +kernel
theorem d1_1 : decode prog_18_method_11_code 1 = .ok (.bipush 97, 2) := by decide +kernel
theorem d1_3 : decode prog_18_method_11_code 3 = .ok (.if_icmp .lt 9, 3) := by decide +kernel
theorem d1_6 : decode prog_18_method_11_code 6 = .ok (.iload_n 0, 1) := by decide +kernel
theorem d1_7 : decode prog_18_method_11_code 7 = .ok (.bipush 122, 2) := by decide +kernel
theorem d1_9 : decode prog_18_method_11_code 9 = .ok (.if_icmp .le 15, 3) := by decide +kernel
theorem d1_12 : decode prog_18_method_11_code 12 = .ok (.iload_n 0, 1) := by decide +kernel
theorem d1_13 : decode prog_18_method_11_code 13 = .ok (.bipush 65, 2) := by decide +kernel
theorem d1_15 : decode prog_18_method_11_code 15 = .ok (.if_icmp .lt 13, 3) := by decide +kernel
theorem d1_18 : decode prog_18_method_11_code 18 = .ok (.iload_n 0, 1) := by decide +kernel
theorem d1_19 : decode prog_18_method_11_code 19 = .ok (.bipush 90, 2) := by decide +kernel
theorem d1_21 : decode prog_18_method_11_code 21 = .ok (.if_icmp .gt 7, 3) := by decide +kernel
theorem d1_24 : decode prog_18_method_11_code 24 = .ok (.iconst 1, 1) := by decide +kernel
theorem d1_25 : decode prog_18_method_11_code 25 = .ok (.goto 4, 3) := by decide +kernel
theorem d1_28 : decode prog_18_method_11_code 28 = .ok (.iconst 0, 1) := by decide +kernel
theorem d1_29 : decode prog_18_method_11_code 29 = .ok (.ireturn, 1) := by decide +kernel
theorem pn1 : plainName "com/example/kavsak/kavsak/HttpSyntax" = true := by first | (simp [plainName, overriddenIn]; done) | decide +kernel
theorem pd1 : parseMethodDescriptor "(C)Z" = some ⟨[.char], some .boolean⟩ := by decide +kernel
def f1_12 (vi0 : Int32) : Int32 := (if vi0 < (65 : Int32) then (0 : Int32) else (if (90 : Int32) < vi0 then (0 : Int32) else (1 : Int32)))
def f1_0 (vi0 : Int32) : Int32 := (if vi0 < (97 : Int32) then (f1_12 vi0) else (if (122 : Int32) < vi0 then (f1_12 vi0) else (1 : Int32)))
set_option maxRecDepth 65536 in
set_option maxHeartbeats 40000000 in
theorem b1_12 {p : Program} {l : Launch} {e : Env} {s : State} {m : MethodId} {args : Array Value} {below : List Frame} {meth : Method} {c : Code} {T : State} {locs : List Loc} {Z : State} {a0 : Array Value} {h0 : Heap} {n0 : Nat} (cx : Cx ({ frames := 0, cells := 0, slots := 0, locals := 0 } : Room) prog_18_method_11_code 1 "com/example/kavsak/kavsak/HttpSyntax" (some .boolean) p l e s m args below meth c T locs 0 0 Z a0 h0 n0) (vi0 : Int32) :
    Rch p e below s 0 0 (T.setTop (mkF m 12 #[.val (.int vi0)] [])) (PI (f1_12 vi0) h0 n0) := by
  obtain ⟨X0, hx, hZ, hw, hby, hml, hown, hret, hlk, e0, Z0, N0⟩ := cx
  unfold f1_12
  refine Rch.step (st' := T.setTop (mkF m 13 #[.val (.int vi0)] [(.int vi0)])) (fun _ hr => XS.iloadN X0.here hx rfl (hb hby d1_12) rfl hr) ?_
  refine Rch.step (st' := T.setTop (mkF m 15 #[.val (.int vi0)] [(.int (65 : Int32)), (.int vi0)])) (fun _ hr => XS.bipush X0.here hx rfl (hb hby d1_13) hr) ?_
  by_cases hc1 : vi0 < (65 : Int32)
  · rw [if_pos hc1]
    refine Rch.step (st' := T.setTop (mkF m 28 #[.val (.int vi0)] [])) (fun _ hr => XS.icmpYes X0.here hx rfl (pc0 := 15) (pc' := 28) rfl (hb hby d1_15) rfl (tlt hc1).1 (by decide) (by decide) hr) ?_
    refine Rch.step (st' := T.setTop (mkF m 29 #[.val (.int vi0)] [(.int (0 : Int32))])) (fun _ hr => XS.iconst X0.here hx rfl (hb hby d1_28) hr) ?_
    exact Rch.retN X0 hx (t := .boolean) hret hlk (by simp) (hb hby d1_29) (by decide) (by decide) ⟨rfl, N0, e0⟩
  · rw [if_neg hc1]
    refine Rch.step (st' := T.setTop (mkF m 18 #[.val (.int vi0)] [])) (fun _ hr => XS.icmpNo X0.here hx rfl (hb hby d1_15) rfl (flt hc1).1 hr) ?_
    refine Rch.step (st' := T.setTop (mkF m 19 #[.val (.int vi0)] [(.int vi0)])) (fun _ hr => XS.iloadN X0.here hx rfl (hb hby d1_18) rfl hr) ?_
    refine Rch.step (st' := T.setTop (mkF m 21 #[.val (.int vi0)] [(.int (90 : Int32)), (.int vi0)])) (fun _ hr => XS.bipush X0.here hx rfl (hb hby d1_19) hr) ?_
    by_cases hc2 : (90 : Int32) < vi0
    · rw [if_pos hc2]
      refine Rch.step (st' := T.setTop (mkF m 28 #[.val (.int vi0)] [])) (fun _ hr => XS.icmpYes X0.here hx rfl (pc0 := 21) (pc' := 28) rfl (hb hby d1_21) rfl (tlt hc2).2.2.1 (by decide) (by decide) hr) ?_
      refine Rch.step (st' := T.setTop (mkF m 29 #[.val (.int vi0)] [(.int (0 : Int32))])) (fun _ hr => XS.iconst X0.here hx rfl (hb hby d1_28) hr) ?_
      exact Rch.retN X0 hx (t := .boolean) hret hlk (by simp) (hb hby d1_29) (by decide) (by decide) ⟨rfl, N0, e0⟩
    · rw [if_neg hc2]
      refine Rch.step (st' := T.setTop (mkF m 24 #[.val (.int vi0)] [])) (fun _ hr => XS.icmpNo X0.here hx rfl (hb hby d1_21) rfl (flt hc2).2.2.1 hr) ?_
      refine Rch.step (st' := T.setTop (mkF m 25 #[.val (.int vi0)] [(.int (1 : Int32))])) (fun _ hr => XS.iconst X0.here hx rfl (hb hby d1_24) hr) ?_
      refine Rch.step (st' := T.setTop (mkF m 29 #[.val (.int vi0)] [(.int (1 : Int32))])) (fun _ hr => XS.goto X0.here hx rfl (pc0 := 25) (pc' := 29) rfl (hb hby d1_25) (by decide) (by decide) hr) ?_
      exact Rch.retN X0 hx (t := .boolean) hret hlk (by simp) (hb hby d1_29) (by decide) (by decide) ⟨rfl, N0, e0⟩
set_option maxRecDepth 65536 in
set_option maxHeartbeats 40000000 in
theorem b1_0 {p : Program} {l : Launch} {e : Env} {s : State} {m : MethodId} {args : Array Value} {below : List Frame} {meth : Method} {c : Code} {T : State} {locs : List Loc} {Z : State} {a0 : Array Value} {h0 : Heap} {n0 : Nat} (cx : Cx ({ frames := 0, cells := 0, slots := 0, locals := 0 } : Room) prog_18_method_11_code 1 "com/example/kavsak/kavsak/HttpSyntax" (some .boolean) p l e s m args below meth c T locs 0 0 Z a0 h0 n0) (vi0 : Int32) :
    Rch p e below s 0 0 (T.setTop (mkF m 0 #[.val (.int vi0)] [])) (PI (f1_0 vi0) h0 n0) := by
  obtain ⟨X0, hx, hZ, hw, hby, hml, hown, hret, hlk, e0, Z0, N0⟩ := cx
  unfold f1_0
  refine Rch.step (st' := T.setTop (mkF m 1 #[.val (.int vi0)] [(.int vi0)])) (fun _ hr => XS.iloadN X0.here hx rfl (hb hby d1_0) rfl hr) ?_
  refine Rch.step (st' := T.setTop (mkF m 3 #[.val (.int vi0)] [(.int (97 : Int32)), (.int vi0)])) (fun _ hr => XS.bipush X0.here hx rfl (hb hby d1_1) hr) ?_
  by_cases hc1 : vi0 < (97 : Int32)
  · rw [if_pos hc1]
    refine Rch.step (st' := T.setTop (mkF m 12 #[.val (.int vi0)] [])) (fun _ hr => XS.icmpYes X0.here hx rfl (pc0 := 3) (pc' := 12) rfl (hb hby d1_3) rfl (tlt hc1).1 (by decide) (by decide) hr) ?_
    exact b1_12 ⟨X0, hx, hZ, hw, hby, hml, hown, hret, hlk, e0, Z0, N0⟩ vi0
  · rw [if_neg hc1]
    refine Rch.step (st' := T.setTop (mkF m 6 #[.val (.int vi0)] [])) (fun _ hr => XS.icmpNo X0.here hx rfl (hb hby d1_3) rfl (flt hc1).1 hr) ?_
    refine Rch.step (st' := T.setTop (mkF m 7 #[.val (.int vi0)] [(.int vi0)])) (fun _ hr => XS.iloadN X0.here hx rfl (hb hby d1_6) rfl hr) ?_
    refine Rch.step (st' := T.setTop (mkF m 9 #[.val (.int vi0)] [(.int (122 : Int32)), (.int vi0)])) (fun _ hr => XS.bipush X0.here hx rfl (hb hby d1_7) hr) ?_
    by_cases hc2 : (122 : Int32) < vi0
    · rw [if_pos hc2]
      refine Rch.step (st' := T.setTop (mkF m 12 #[.val (.int vi0)] [])) (fun _ hr => XS.icmpNo X0.here hx rfl (hb hby d1_9) rfl (tlt hc2).2.2.2 hr) ?_
      exact b1_12 ⟨X0, hx, hZ, hw, hby, hml, hown, hret, hlk, e0, Z0, N0⟩ vi0
    · rw [if_neg hc2]
      refine Rch.step (st' := T.setTop (mkF m 24 #[.val (.int vi0)] [])) (fun _ hr => XS.icmpYes X0.here hx rfl (pc0 := 9) (pc' := 24) rfl (hb hby d1_9) rfl (flt hc2).2.2.2 (by decide) (by decide) hr) ?_
      refine Rch.step (st' := T.setTop (mkF m 25 #[.val (.int vi0)] [(.int (1 : Int32))])) (fun _ hr => XS.iconst X0.here hx rfl (hb hby d1_24) hr) ?_
      refine Rch.step (st' := T.setTop (mkF m 29 #[.val (.int vi0)] [(.int (1 : Int32))])) (fun _ hr => XS.goto X0.here hx rfl (pc0 := 25) (pc' := 29) rfl (hb hby d1_25) (by decide) (by decide) hr) ?_
      exact Rch.retN X0 hx (t := .boolean) hret hlk (by simp) (hb hby d1_29) (by decide) (by decide) ⟨rfl, N0, e0⟩
theorem ef1 (m : MethodId) (x0 : Int32) : entryFrame m #[(.int x0)] 1 = mkF m 0 #[.val (.int x0)] [] := by first | (simp [entryFrame, mkF, argsToLocals, Value.category]; done) | rfl
set_option maxRecDepth 65536 in
set_option maxHeartbeats 40000000 in
theorem rm1 (l : Launch) (Z : State) (a0 : Array Value) (hw : ∀ d ∈ tables_1, d.before a0 Z = true) (ws : List Jvm.Cond) (vi0 : Int32) (h0 : Heap) (n0 : Nat) (Z0 : n0 ≤ h0.size) :
    MetFree l (⟨"com/example/kavsak/kavsak/HttpSyntax", "isAlpha", "(C)Z"⟩ : MethodName) (head1 (Jvm.Cond.code (⟨"com/example/kavsak/kavsak/HttpSyntax", "isAlpha", "(C)Z"⟩ : MethodName) prog_18_method_11_code 1 (some .boolean) :: ws) ({ frames := 0, cells := 0, slots := 0, locals := 0 } : Room)) (fun a U => a = #[(.int vi0)] ∧ Z.Warmed39 U.vm ∧ U.heap = h0) (fun _ _ _ _ _ => True) (fun _ U o U' => ∃ v L, o = .returned v ∧ PI (f1_0 vi0) h0 n0 v U'.heap L ∧ FrameEnd U o U' L ({ frames := 0, cells := 0, slots := 0, locals := 0 } : Room).cells ({ frames := 0, cells := 0, slots := 0, locals := 0 } : Room).slots) := by
  refine MetFree.of_bodySF (plainFor_of_name pn1) hisR ?_
  intro p e s m args below meth c s₁ Bd hml0 hP hK
  obtain ⟨rfl, hZ, hh⟩ := hP
  have hown : s.vm.findClass "com/example/kavsak/kavsak/HttpSyntax" = some m.cls := findClass_of_methodNamed Bd.named
  have e0 : s₁.heap = h0 := by rw [← hh, Bd.state]; rfl
  obtain ⟨s₂, v, L, h1, h2, h3, h4, h5⟩ := b1_0 (T := s₁) ⟨Stand.of_body Bd, Bd.exec, hZ, hw, Bd.bytes, hml0, hown, Bd.returns, BodyLoose.notSynchronized Bd, e0, Z0, Fr.nil n0⟩ vi0
  exact ⟨s₂, .returned v, castTop (ef1 m vi0) h1, h2, h3, v, L, rfl, h4, h5⟩
-- body 0
theorem pn0 : plainName "com/example/kavsak/kavsak/HttpSyntaxIsAlphaPinLaw" = true := by first | (simp [plainName, overriddenIn]; done) | decide +kernel
def f0_30 (vi2 : Int32) (si0 : Int32) : Int32 := (if (f1_0 vi2) = si0 then (1 : Int32) else (0 : Int32))
def f0_29 (vi2 : Int32) : Int32 := (f0_30 vi2 (0 : Int32))
def f0_0 (vi0 : Int32) : Int32 := (if ((vi0 &&& (65535 : Int32)) ||| (32 : Int32)) < (97 : Int32) then (f0_29 ((vi0 &&& (65535 : Int32)).toUInt32.toUInt16.toUInt32.toInt32)) else (if (122 : Int32) < ((vi0 &&& (65535 : Int32)) ||| (32 : Int32)) then (f0_29 ((vi0 &&& (65535 : Int32)).toUInt32.toUInt16.toUInt32.toInt32)) else (f0_30 ((vi0 &&& (65535 : Int32)).toUInt32.toUInt16.toUInt32.toInt32) (1 : Int32))))
set_option maxRecDepth 65536 in
set_option maxHeartbeats 40000000 in
theorem b0_30 {p : Program} {l : Launch} {e : Env} {s : State} {m : MethodId} {args : Array Value} {below : List Frame} {meth : Method} {c : Code} {T : State} {locs : List Loc} {Z : State} {a0 : Array Value} {h0 : Heap} {n0 : Nat} (cx : Cx room_1 code 5 "com/example/kavsak/kavsak/HttpSyntaxIsAlphaPinLaw" (some .boolean) p l e s m args below meth c T locs 0 0 Z a0 h0 n0) (vi0 : Int32) (vi1 : Int32) (vi2 : Int32) (vi3 : Int32) (si0 : Int32) :
    Rch p e below s 0 0 (T.setTop (mkF m 30 #[.val (.int vi0), .val (.int vi1), .val (.int vi2), .val (.int vi3), .unset] [(.int si0)])) (PI (f0_30 vi2 si0) h0 n0) := by
  obtain ⟨X0, hx, hZ, hw, hby, hml, hown, hret, hlk, e0, Z0, N0⟩ := cx
  unfold f0_30
  refine Rch.step (st' := T.setTop (mkF m 32 #[.val (.int vi0), .val (.int vi1), .val (.int vi2), .val (.int vi3), .val (.int si0)] [])) (fun _ hr => XS.istore X0.here hx rfl (hb hby at_30) rfl (l' := #[.val (.int vi0), .val (.int vi1), .val (.int vi2), .val (.int vi3), .val (.int si0)]) rfl hr) ?_
  refine Rch.step (st' := T.setTop (mkF m 33 #[.val (.int vi0), .val (.int vi1), .val (.int vi2), .val (.int vi3), .val (.int si0)] [(.int vi2)])) (fun _ hr => XS.iloadN X0.here hx rfl (hb hby at_32) rfl hr) ?_
  obtain ⟨_, _, ⟨T1, L1, k1, n1⟩, -, X1, ⟨Lc1, hQ1, l1, y1, z1⟩, st1⟩ := Jvm.LawKit.callS X0 hx (y := (⟨"com/example/kavsak/kavsak/HttpSyntax", "isAlpha", "(C)Z"⟩ : MethodName)) hown (mvT hZ (hw _ (List.mem_of_getElem? (i := 1) rfl))) (mvT hZ (hw _ (List.mem_of_getElem? (i := 2) rfl))) (mvT hZ (hw _ (List.mem_of_getElem? (i := 3) rfl))) (mvT hZ (hw _ (List.mem_of_getElem? (i := 4) rfl))) (by decide) (backOf (W := 0) (rm1 l Z a0 hw [] vi2 h0 n0 Z0) hZ (hw _ (List.mem_of_getElem? (i := 4) rfl)) (hw _ (List.mem_of_getElem? (i := 3) rfl)) (by decide) (by decide)) (g := (mkF m 33 #[.val (.int vi0), .val (.int vi1), .val (.int vi2), .val (.int vi3), .val (.int si0)] [(.int vi2)])) rfl (by rw [hml]; rfl) (argsL := [(.int vi2)]) (rest := []) (lenOf pd1 rfl) rfl (by show 2 * 0 + _ ≤ _; exact Nat.le_of_eq rfl) (hb hby at_33) (fun _ _ => ⟨rfl, e0, (by decide : 0 + 0 ≤ _), (by decide : 0 + 0 ≤ _)⟩)
  dsimp only [Pt.U, Pt.locs, Pt.cells, Pt.slots] at X1 l1 y1 z1 st1 hQ1
  subst l1 y1 z1
  obtain ⟨rfl, N1q, e1⟩ := hQ1
  have N1 := Fr.app N0 N1q
  refine Rch.step (st' := T1.setTop (mkF m 36 #[.val (.int vi0), .val (.int vi1), .val (.int vi2), .val (.int vi3), .val (.int si0)] [(.int (f1_0 vi2))])) (fun _ hr => st1 _ hr) ?_
  refine Rch.step (st' := T1.setTop (mkF m 38 #[.val (.int vi0), .val (.int vi1), .val (.int vi2), .val (.int vi3), .val (.int si0)] [(.int si0), (.int (f1_0 vi2))])) (fun _ hr => XS.iload X1.here hx rfl (hb hby at_36) rfl hr) ?_
  by_cases hc2 : (f1_0 vi2) = si0
  · rw [if_pos hc2]
    refine Rch.step (st' := T1.setTop (mkF m 41 #[.val (.int vi0), .val (.int vi1), .val (.int vi2), .val (.int vi3), .val (.int si0)] [])) (fun _ hr => XS.icmpNo X1.here hx rfl (hb hby at_38) rfl (teq hc2).2 hr) ?_
    refine Rch.step (st' := T1.setTop (mkF m 42 #[.val (.int vi0), .val (.int vi1), .val (.int vi2), .val (.int vi3), .val (.int si0)] [(.int (1 : Int32))])) (fun _ hr => XS.iconst X1.here hx rfl (hb hby at_41) hr) ?_
    refine Rch.step (st' := T1.setTop (mkF m 46 #[.val (.int vi0), .val (.int vi1), .val (.int vi2), .val (.int vi3), .val (.int si0)] [(.int (1 : Int32))])) (fun _ hr => XS.goto X1.here hx rfl (pc0 := 42) (pc' := 46) rfl (hb hby at_42) (by decide) (by decide) hr) ?_
    exact Rch.retN X1 hx (t := .boolean) hret hlk (by simp) (hb hby at_46) (by decide) (by decide) ⟨rfl, N1, e1⟩
  · rw [if_neg hc2]
    refine Rch.step (st' := T1.setTop (mkF m 45 #[.val (.int vi0), .val (.int vi1), .val (.int vi2), .val (.int vi3), .val (.int si0)] [])) (fun _ hr => XS.icmpYes X1.here hx rfl (pc0 := 38) (pc' := 45) rfl (hb hby at_38) rfl (feq hc2).2 (by decide) (by decide) hr) ?_
    refine Rch.step (st' := T1.setTop (mkF m 46 #[.val (.int vi0), .val (.int vi1), .val (.int vi2), .val (.int vi3), .val (.int si0)] [(.int (0 : Int32))])) (fun _ hr => XS.iconst X1.here hx rfl (hb hby at_45) hr) ?_
    exact Rch.retN X1 hx (t := .boolean) hret hlk (by simp) (hb hby at_46) (by decide) (by decide) ⟨rfl, N1, e1⟩
set_option maxRecDepth 65536 in
set_option maxHeartbeats 40000000 in
theorem b0_29 {p : Program} {l : Launch} {e : Env} {s : State} {m : MethodId} {args : Array Value} {below : List Frame} {meth : Method} {c : Code} {T : State} {locs : List Loc} {Z : State} {a0 : Array Value} {h0 : Heap} {n0 : Nat} (cx : Cx room_1 code 5 "com/example/kavsak/kavsak/HttpSyntaxIsAlphaPinLaw" (some .boolean) p l e s m args below meth c T locs 0 0 Z a0 h0 n0) (vi0 : Int32) (vi1 : Int32) (vi2 : Int32) (vi3 : Int32) :
    Rch p e below s 0 0 (T.setTop (mkF m 29 #[.val (.int vi0), .val (.int vi1), .val (.int vi2), .val (.int vi3), .unset] [])) (PI (f0_29 vi2) h0 n0) := by
  obtain ⟨X0, hx, hZ, hw, hby, hml, hown, hret, hlk, e0, Z0, N0⟩ := cx
  unfold f0_29
  refine Rch.step (st' := T.setTop (mkF m 30 #[.val (.int vi0), .val (.int vi1), .val (.int vi2), .val (.int vi3), .unset] [(.int (0 : Int32))])) (fun _ hr => XS.iconst X0.here hx rfl (hb hby at_29) hr) ?_
  exact b0_30 ⟨X0, hx, hZ, hw, hby, hml, hown, hret, hlk, e0, Z0, N0⟩ vi0 vi1 vi2 vi3 (0 : Int32)
set_option maxRecDepth 65536 in
set_option maxHeartbeats 40000000 in
theorem b0_0 {p : Program} {l : Launch} {e : Env} {s : State} {m : MethodId} {args : Array Value} {below : List Frame} {meth : Method} {c : Code} {T : State} {locs : List Loc} {Z : State} {a0 : Array Value} {h0 : Heap} {n0 : Nat} (cx : Cx room_1 code 5 "com/example/kavsak/kavsak/HttpSyntaxIsAlphaPinLaw" (some .boolean) p l e s m args below meth c T locs 0 0 Z a0 h0 n0) (vi0 : Int32) :
    Rch p e below s 0 0 (T.setTop (mkF m 0 #[.val (.int vi0), .unset, .unset, .unset, .unset] [])) (PI (f0_0 vi0) h0 n0) := by
  obtain ⟨X0, hx, hZ, hw, hby, hml, hown, hret, hlk, e0, Z0, N0⟩ := cx
  unfold f0_0
  refine Rch.step (st' := T.setTop (mkF m 1 #[.val (.int vi0), .unset, .unset, .unset, .unset] [(.int vi0)])) (fun _ hr => XS.iloadN X0.here hx rfl (hb hby at_0) rfl hr) ?_
  refine Rch.step (st' := T.setTop (mkF m 3 #[.val (.int vi0), .unset, .unset, .unset, .unset] [(.int (65535 : Int32)), (.int vi0)])) (fun _ hr => X0.ldcInt hx hown (mvT hZ (hw _ (List.mem_of_getElem? (i := 0) rfl))) (g := (mkF m 1 #[.val (.int vi0), .unset, .unset, .unset, .unset] [(.int vi0)])) rfl (hb hby at_1) _ hr) ?_
  refine Rch.step (st' := T.setTop (mkF m 4 #[.val (.int vi0), .unset, .unset, .unset, .unset] [(.int (vi0 &&& (65535 : Int32)))])) (fun _ hr => XS.iand X0.here hx rfl (hb hby at_3) rfl hr) ?_
  refine Rch.step (st' := T.setTop (mkF m 5 #[.val (.int vi0), .val (.int (vi0 &&& (65535 : Int32))), .unset, .unset, .unset] [])) (fun _ hr => XS.istoreN X0.here hx rfl (hb hby at_4) rfl (l' := #[.val (.int vi0), .val (.int (vi0 &&& (65535 : Int32))), .unset, .unset, .unset]) rfl hr) ?_
  refine Rch.step (st' := T.setTop (mkF m 6 #[.val (.int vi0), .val (.int (vi0 &&& (65535 : Int32))), .unset, .unset, .unset] [(.int (vi0 &&& (65535 : Int32)))])) (fun _ hr => XS.iloadN X0.here hx rfl (hb hby at_5) rfl hr) ?_
  refine Rch.step (st' := T.setTop (mkF m 7 #[.val (.int vi0), .val (.int (vi0 &&& (65535 : Int32))), .unset, .unset, .unset] [(.int ((vi0 &&& (65535 : Int32)).toUInt32.toUInt16.toUInt32.toInt32))])) (fun _ hr => XS.i2c X0.here hx rfl (hb hby at_6) rfl hr) ?_
  refine Rch.step (st' := T.setTop (mkF m 8 #[.val (.int vi0), .val (.int (vi0 &&& (65535 : Int32))), .val (.int ((vi0 &&& (65535 : Int32)).toUInt32.toUInt16.toUInt32.toInt32)), .unset, .unset] [])) (fun _ hr => XS.istoreN X0.here hx rfl (hb hby at_7) rfl (l' := #[.val (.int vi0), .val (.int (vi0 &&& (65535 : Int32))), .val (.int ((vi0 &&& (65535 : Int32)).toUInt32.toUInt16.toUInt32.toInt32)), .unset, .unset]) rfl hr) ?_
  refine Rch.step (st' := T.setTop (mkF m 9 #[.val (.int vi0), .val (.int (vi0 &&& (65535 : Int32))), .val (.int ((vi0 &&& (65535 : Int32)).toUInt32.toUInt16.toUInt32.toInt32)), .unset, .unset] [(.int (vi0 &&& (65535 : Int32)))])) (fun _ hr => XS.iloadN X0.here hx rfl (hb hby at_8) rfl hr) ?_
  refine Rch.step (st' := T.setTop (mkF m 11 #[.val (.int vi0), .val (.int (vi0 &&& (65535 : Int32))), .val (.int ((vi0 &&& (65535 : Int32)).toUInt32.toUInt16.toUInt32.toInt32)), .unset, .unset] [(.int (32 : Int32)), (.int (vi0 &&& (65535 : Int32)))])) (fun _ hr => XS.bipush X0.here hx rfl (hb hby at_9) hr) ?_
  refine Rch.step (st' := T.setTop (mkF m 12 #[.val (.int vi0), .val (.int (vi0 &&& (65535 : Int32))), .val (.int ((vi0 &&& (65535 : Int32)).toUInt32.toUInt16.toUInt32.toInt32)), .unset, .unset] [(.int ((vi0 &&& (65535 : Int32)) ||| (32 : Int32)))])) (fun _ hr => XS.ior X0.here hx rfl (hb hby at_11) rfl hr) ?_
  refine Rch.step (st' := T.setTop (mkF m 13 #[.val (.int vi0), .val (.int (vi0 &&& (65535 : Int32))), .val (.int ((vi0 &&& (65535 : Int32)).toUInt32.toUInt16.toUInt32.toInt32)), .val (.int ((vi0 &&& (65535 : Int32)) ||| (32 : Int32))), .unset] [])) (fun _ hr => XS.istoreN X0.here hx rfl (hb hby at_12) rfl (l' := #[.val (.int vi0), .val (.int (vi0 &&& (65535 : Int32))), .val (.int ((vi0 &&& (65535 : Int32)).toUInt32.toUInt16.toUInt32.toInt32)), .val (.int ((vi0 &&& (65535 : Int32)) ||| (32 : Int32))), .unset]) rfl hr) ?_
  refine Rch.step (st' := T.setTop (mkF m 14 #[.val (.int vi0), .val (.int (vi0 &&& (65535 : Int32))), .val (.int ((vi0 &&& (65535 : Int32)).toUInt32.toUInt16.toUInt32.toInt32)), .val (.int ((vi0 &&& (65535 : Int32)) ||| (32 : Int32))), .unset] [(.int ((vi0 &&& (65535 : Int32)) ||| (32 : Int32)))])) (fun _ hr => XS.iloadN X0.here hx rfl (hb hby at_13) rfl hr) ?_
  refine Rch.step (st' := T.setTop (mkF m 16 #[.val (.int vi0), .val (.int (vi0 &&& (65535 : Int32))), .val (.int ((vi0 &&& (65535 : Int32)).toUInt32.toUInt16.toUInt32.toInt32)), .val (.int ((vi0 &&& (65535 : Int32)) ||| (32 : Int32))), .unset] [(.int (97 : Int32)), (.int ((vi0 &&& (65535 : Int32)) ||| (32 : Int32)))])) (fun _ hr => XS.bipush X0.here hx rfl (hb hby at_14) hr) ?_
  by_cases hc1 : ((vi0 &&& (65535 : Int32)) ||| (32 : Int32)) < (97 : Int32)
  · rw [if_pos hc1]
    refine Rch.step (st' := T.setTop (mkF m 29 #[.val (.int vi0), .val (.int (vi0 &&& (65535 : Int32))), .val (.int ((vi0 &&& (65535 : Int32)).toUInt32.toUInt16.toUInt32.toInt32)), .val (.int ((vi0 &&& (65535 : Int32)) ||| (32 : Int32))), .unset] [])) (fun _ hr => XS.icmpYes X0.here hx rfl (pc0 := 16) (pc' := 29) rfl (hb hby at_16) rfl (tlt hc1).1 (by decide) (by decide) hr) ?_
    exact b0_29 ⟨X0, hx, hZ, hw, hby, hml, hown, hret, hlk, e0, Z0, N0⟩ vi0 (vi0 &&& (65535 : Int32)) ((vi0 &&& (65535 : Int32)).toUInt32.toUInt16.toUInt32.toInt32) ((vi0 &&& (65535 : Int32)) ||| (32 : Int32))
  · rw [if_neg hc1]
    refine Rch.step (st' := T.setTop (mkF m 19 #[.val (.int vi0), .val (.int (vi0 &&& (65535 : Int32))), .val (.int ((vi0 &&& (65535 : Int32)).toUInt32.toUInt16.toUInt32.toInt32)), .val (.int ((vi0 &&& (65535 : Int32)) ||| (32 : Int32))), .unset] [])) (fun _ hr => XS.icmpNo X0.here hx rfl (hb hby at_16) rfl (flt hc1).1 hr) ?_
    refine Rch.step (st' := T.setTop (mkF m 20 #[.val (.int vi0), .val (.int (vi0 &&& (65535 : Int32))), .val (.int ((vi0 &&& (65535 : Int32)).toUInt32.toUInt16.toUInt32.toInt32)), .val (.int ((vi0 &&& (65535 : Int32)) ||| (32 : Int32))), .unset] [(.int ((vi0 &&& (65535 : Int32)) ||| (32 : Int32)))])) (fun _ hr => XS.iloadN X0.here hx rfl (hb hby at_19) rfl hr) ?_
    refine Rch.step (st' := T.setTop (mkF m 22 #[.val (.int vi0), .val (.int (vi0 &&& (65535 : Int32))), .val (.int ((vi0 &&& (65535 : Int32)).toUInt32.toUInt16.toUInt32.toInt32)), .val (.int ((vi0 &&& (65535 : Int32)) ||| (32 : Int32))), .unset] [(.int (122 : Int32)), (.int ((vi0 &&& (65535 : Int32)) ||| (32 : Int32)))])) (fun _ hr => XS.bipush X0.here hx rfl (hb hby at_20) hr) ?_
    by_cases hc2 : (122 : Int32) < ((vi0 &&& (65535 : Int32)) ||| (32 : Int32))
    · rw [if_pos hc2]
      refine Rch.step (st' := T.setTop (mkF m 29 #[.val (.int vi0), .val (.int (vi0 &&& (65535 : Int32))), .val (.int ((vi0 &&& (65535 : Int32)).toUInt32.toUInt16.toUInt32.toInt32)), .val (.int ((vi0 &&& (65535 : Int32)) ||| (32 : Int32))), .unset] [])) (fun _ hr => XS.icmpYes X0.here hx rfl (pc0 := 22) (pc' := 29) rfl (hb hby at_22) rfl (tlt hc2).2.2.1 (by decide) (by decide) hr) ?_
      exact b0_29 ⟨X0, hx, hZ, hw, hby, hml, hown, hret, hlk, e0, Z0, N0⟩ vi0 (vi0 &&& (65535 : Int32)) ((vi0 &&& (65535 : Int32)).toUInt32.toUInt16.toUInt32.toInt32) ((vi0 &&& (65535 : Int32)) ||| (32 : Int32))
    · rw [if_neg hc2]
      refine Rch.step (st' := T.setTop (mkF m 25 #[.val (.int vi0), .val (.int (vi0 &&& (65535 : Int32))), .val (.int ((vi0 &&& (65535 : Int32)).toUInt32.toUInt16.toUInt32.toInt32)), .val (.int ((vi0 &&& (65535 : Int32)) ||| (32 : Int32))), .unset] [])) (fun _ hr => XS.icmpNo X0.here hx rfl (hb hby at_22) rfl (flt hc2).2.2.1 hr) ?_
      refine Rch.step (st' := T.setTop (mkF m 26 #[.val (.int vi0), .val (.int (vi0 &&& (65535 : Int32))), .val (.int ((vi0 &&& (65535 : Int32)).toUInt32.toUInt16.toUInt32.toInt32)), .val (.int ((vi0 &&& (65535 : Int32)) ||| (32 : Int32))), .unset] [(.int (1 : Int32))])) (fun _ hr => XS.iconst X0.here hx rfl (hb hby at_25) hr) ?_
      refine Rch.step (st' := T.setTop (mkF m 30 #[.val (.int vi0), .val (.int (vi0 &&& (65535 : Int32))), .val (.int ((vi0 &&& (65535 : Int32)).toUInt32.toUInt16.toUInt32.toInt32)), .val (.int ((vi0 &&& (65535 : Int32)) ||| (32 : Int32))), .unset] [(.int (1 : Int32))])) (fun _ hr => XS.goto X0.here hx rfl (pc0 := 26) (pc' := 30) rfl (hb hby at_26) (by decide) (by decide) hr) ?_
      exact b0_30 ⟨X0, hx, hZ, hw, hby, hml, hown, hret, hlk, e0, Z0, N0⟩ vi0 (vi0 &&& (65535 : Int32)) ((vi0 &&& (65535 : Int32)).toUInt32.toUInt16.toUInt32.toInt32) ((vi0 &&& (65535 : Int32)) ||| (32 : Int32)) (1 : Int32)
theorem ef0 (m : MethodId) (x0 : Int32) : entryFrame m #[(.int x0)] maxLocals = mkF m 0 #[.val (.int x0), .unset, .unset, .unset, .unset] [] := by first | (simp [entryFrame, mkF, argsToLocals, Value.category, maxLocals]; done) | rfl
set_option maxRecDepth 65536 in
set_option maxHeartbeats 40000000 in
theorem rm0 (l : Launch) (Z : State) (a0 : Array Value) (hw : ∀ d ∈ tables_1, d.before a0 Z = true) (ws : List Jvm.Cond) (vi0 : Int32) (h0 : Heap) (n0 : Nat) (Z0 : n0 ≤ h0.size) :
    MetFree l x (head1 (Jvm.Cond.code x code maxLocals ret :: ws) room_1) (fun a U => a = #[(.int vi0)] ∧ Z.Warmed39 U.vm ∧ U.heap = h0) (fun _ _ _ _ _ => True) (fun _ U o U' => ∃ v L, o = .returned v ∧ PI (f0_0 vi0) h0 n0 v U'.heap L ∧ FrameEnd U o U' L room_1.cells room_1.slots) := by
  refine MetFree.of_bodySF (plainFor_of_name pn0) hisR ?_
  intro p e s m args below meth c s₁ Bd hml0 hP hK
  obtain ⟨rfl, hZ, hh⟩ := hP
  have hown : s.vm.findClass "com/example/kavsak/kavsak/HttpSyntaxIsAlphaPinLaw" = some m.cls := findClass_of_methodNamed Bd.named
  have e0 : s₁.heap = h0 := by rw [← hh, Bd.state]; rfl
  obtain ⟨s₂, v, L, h1, h2, h3, h4, h5⟩ := b0_0 (T := s₁) ⟨Stand.of_body Bd, Bd.exec, hZ, hw, Bd.bytes, hml0, hown, Bd.returns, BodyLoose.notSynchronized Bd, e0, Z0, Fr.nil n0⟩ vi0
  exact ⟨s₂, .returned v, castTop (ef0 m vi0) h1, h2, h3, v, L, rfl, h4, h5⟩
theorem own_fin : ∀ k : Fin 128, f0_0 (Int32.ofNat k.val) = 1 := by decide +kernel
theorem own_i2c (x : Int32) (h0 : 0 ≤ x.toInt) (h1 : x.toInt < 65536) : x.toUInt32.toUInt16.toUInt32.toInt32 = x := by
  have h := c_i2c x
  apply Int32.toInt_inj.mp
  omega
theorem own_mask (x : Int32) (h0 : 0 ≤ x.toInt) (h1 : x.toInt < 65536) : x &&& (65535 : Int32) = x := by
  have m := c_mask x 65535 16 (by decide) (by decide)
  apply Int32.toInt_inj.mp
  omega
theorem own_law (a : Int32) : f0_0 a = 1 := by
  have m := c_mask a 65535 16 (by decide) (by decide)
  have e : f0_0 a = f0_0 (a &&& 65535) := by
    unfold f0_0
    rw [own_mask (a &&& 65535) (by omega) (by omega)]
  rw [e]
  generalize a &&& (65535 : Int32) = v at m
  by_cases h : v.toInt < 128
  · have q : v = Int32.ofNat v.toInt.toNat := by
      apply Int32.toInt_inj.mp
      rw [Int32.toInt_ofNat_of_lt (by omega)]
      omega
    rw [q]
    exact own_fin ⟨v.toInt.toNat, by omega⟩
  · unfold f0_0
    rw [own_mask v (by omega) (by omega), own_i2c v (by omega) (by omega)]
    have o := c_or0 v 32 (by omega) (by decide)
    simp only [f0_29, f0_30, f1_0, f1_12, Int32.lt_iff_toInt_lt, Int32.reduceToInt]
    repeat' split
    all_goals first | rfl | (exfalso; omega) | (exfalso; simp_all; done)
set_option maxRecDepth 65536 in
set_option maxHeartbeats 40000000 in
theorem comes_1 {Post : Tables → Env → Array Value → State → Outcome → State → Prop} (hpost : ∀ tb e args s v u, (limb_1_1.after args s (.returned v) u = true ∧ limb_1_2.after args s (.returned v) u = true ∧ True) → FrameEnd s (.returned v) u (Jvm.fieldLocs frame_1_writes args s ++ Jvm.arrayLocs frame_1_arrays args s ++ Jvm.staticLocs frame_1_statics s) 0 0 → Post tb e args s (.returned v) u) :
    ArmFor flags0 classFile x code maxLocals ret World_1 tables_1 room_1 Calls_1 rest_1 Pre_1 Post := by
  intro l hfl _ _ p e ha hc hk s m args below hf hA hF happ hP
  obtain ⟨hcalls, hrest, hpre⟩ := hP
  obtain ⟨-, -, -, hnamed, -, -, -, hat⟩ := (Spec.applies_iff hf).mp happ
  obtain ⟨hg, hn⟩ := and_e (Cond.before_iff.mp (show (Jvm.Cond.and given_1 narrow_1).before args s = true from hpre))
  obtain ⟨g1, g2⟩ := and_e hg
  obtain ⟨w0, rfl⟩ : ∃ w0 : Value, args = #[w0] := by
    have hs : args.size = 1 := by simpa [Cond.value, given_1] using g1
    obtain ⟨L⟩ := args
    match L, hs with
    | [w0], _ => exact ⟨w0, rfl⟩
  have hw := fun d (hd : d ∈ tables_1) => atoms_spec (ws := Jvm.Cond.code x code maxLocals ret :: tables_1) hat d (List.mem_cons_of_mem _ hd)
  obtain ⟨i0, ei0⟩ := is_v g2
  obtain rfl : w0 = (.int i0) := Option.some.inj ei0
  obtain ⟨n, o, h1, h2, h3, _, L, rfl, ⟨rfl, N, -⟩, hq⟩ := rm0 l s _ hw tables_1 i0 s.heap s.heap.size (Nat.le_refl _) p e ha hc hk s m _ below hf ((Spec.applies_iff_loose hf).mp happ).1 ⟨rfl, State.Warmed39.refl s, rfl⟩ trivial
  have hlaw := own_law i0
  refine ⟨n, _, h1, h2, h3, hpost _ _ _ _ _ _ ⟨Cond.after_iff.mpr rfl, Cond.after_iff.mpr (eq_i res_at (Term.int_eval (1)) (by rw [hlaw])), trivial⟩ ⟨hq.1, hq.2.1, (hq.2.2.sift fun y hy => Or.inr (N y hy)).mono (by decide) (by decide)⟩⟩
theorem main_1_1 : Claimed_1_1 := comes_1 fun _ _ _ _ _ _ h hF => ⟨h.1, hF⟩
theorem main_1_2 : Claimed_1_2 := comes_1 fun _ _ _ _ _ _ h hF => ⟨h.2.1, hF⟩
end Jvm.Pilot.@@N@@
namespace Jvm.Pilot.@@N@@
open Jvm Jvm.ClassFile Sem Op Lib Jvm.Free Jvm.Stand Jvm.Pilot.@@N@@.Jvm.D
/-! MADE BY PROGRAM (witnessworld.py) out of the Statement's table words and the real class files: 9 classes; the members and pool entries that the words name. The judged class is class 1, her method 1. -/
namespace start1
open Jvm.ClassFile
def u (s : String) : CpInfo := .utf8 (stringToUtf16 s)
/-- a pool by its gaps: so many unusable entries, then the entry; so many at the end -/
def gap : Nat → List CpInfo → List CpInfo
  | 0, r => r
  | n + 1, r => .unusable :: gap n r
def poolList (es : List (Nat × CpInfo)) (last : Nat) : List CpInfo := es.foldr (fun e r => gap e.1 (e.2 :: r)) (gap last [])
def pool (es : List (Nat × CpInfo)) (last : Nat) : Array CpInfo := ⟨poolList es last⟩
def fileOf (pool : Array CpInfo) (this : Nat) (attrs : Array Attribute := #[]) (ms : Array MethodInfo := #[]) (fl : Nat := 33) (sup : Nat := 0) (ifs : Array Nat := #[]) (fds : Array FieldInfo := #[]) : ClassFile where
  minorVersion := 0
  majorVersion := 65
  constantPool := pool
  accessFlags := fl
  thisClass := this
  superClass := sup
  interfaces := ifs
  fields := fds
  methods := ms
  attributes := attrs
def plain (name : String) (sup : Option ClassId) : Class where
  name := name
  kind := .ordinary
  loader := none
  accessFlags := 33
  super := sup
  interfaces := #[]
  cf := none
  fields := #[]
  methods := #[]
  instanceTypes := #[]
  staticTypes := #[]
  resolved := #[]
  callSites := []
  init := .initialized
  statics := none
  mirror := none

def pool0 : Array CpInfo := pool [(5, u "<init>"), (0, u "()V"), (1, .class_ 10), (1, u "java/lang/Object")] 113

def k0m0 : Method := { name := "<init>", desc := "()V", sig := { parameters := [], returnType := none }, accessFlags := 1, code := none }
/-- java/lang/Object -/
def k0 : Class := { plain "java/lang/Object" none with
  accessFlags := 33
  interfaces := #[]
  cf := some (fileOf pool0 8 #[] #[{ accessFlags := 1, nameIndex := 5, descriptorIndex := 6, attributes := #[] }] 33 0 #[] #[])
  fields := #[]
  methods := #[k0m0]
  instanceTypes := #[]
  staticTypes := #[]
  resolved := Array.replicate 124 none
  statics := none }

def pool1 : Array CpInfo := pool [(2, .class_ 4), (1, u "java/lang/Object"), (0, u "<init>"), (0, u "()V"), (0, .integer 65535), (0, .methodref 9 10), (0, .class_ 11), (0, .nameAndType 12 13), (0, u "com/example/kavsak/kavsak/HttpSyntax"), (0, u "isAlpha"), (0, u "(C)Z"), (0, .class_ 15), (0, u "com/example/kavsak/kavsak/HttpSyntaxIsAlphaPinLaw"), (2, u "law"), (0, u "(I)Z")] 3

def k1m0 : Method := { name := "<init>", desc := "()V", sig := { parameters := [], returnType := none }, accessFlags := 2, code := none }
def k1c1 : Code := { maxStack := 2, maxLocals := 5, code := code, exceptionTable := #[], attributes := #[] }
def k1m1 : Method := { name := "law", desc := "(I)Z", sig := { parameters := [.int], returnType := some .boolean }, accessFlags := 9, code := some k1c1 }
/-- com/example/kavsak/kavsak/HttpSyntaxIsAlphaPinLaw -/
def k1 : Class := { plain "com/example/kavsak/kavsak/HttpSyntaxIsAlphaPinLaw" (some 0) with
  accessFlags := 49
  interfaces := #[]
  cf := some (fileOf pool1 14 #[] #[{ accessFlags := 2, nameIndex := 5, descriptorIndex := 6, attributes := #[] }, { accessFlags := 9, nameIndex := 18, descriptorIndex := 19, attributes := #[] }] 49 2 #[] #[])
  fields := #[]
  methods := #[k1m0, k1m1]
  instanceTypes := #[]
  staticTypes := #[]
  resolved := Array.replicate 23 none
  statics := none }

def pool2 : Array CpInfo := pool [(2, .class_ 4), (1, u "java/lang/Object"), (0, u "<init>"), (0, u "()V"), (18, .class_ 27), (1, u "com/example/kavsak/kavsak/HttpSyntax"), (1, u "(C)Z"), (15, u "TOKEN_CHARS"), (0, u "[Z"), (2, u "AUTHORITY_CHARS"), (2, u "isAlpha"), (39, u "FULL_WEIGHT"), (0, u "I"), (2, u "MAX_LABEL_LENGTH")] 21

def k2m0 : Method := { name := "<init>", desc := "()V", sig := { parameters := [], returnType := none }, accessFlags := 2, code := none }
def k2c1 : Code := { maxStack := 2, maxLocals := 1, code := prog_18_method_11_code, exceptionTable := #[], attributes := #[] }
def k2m1 : Method := { name := "isAlpha", desc := "(C)Z", sig := { parameters := [.char], returnType := some .boolean }, accessFlags := 8, code := some k2c1 }
/-- com/example/kavsak/kavsak/HttpSyntax -/
def k2 : Class := { plain "com/example/kavsak/kavsak/HttpSyntax" (some 0) with
  accessFlags := 48
  interfaces := #[]
  cf := some (fileOf pool2 25 #[] #[{ accessFlags := 2, nameIndex := 5, descriptorIndex := 6, attributes := #[] }, { accessFlags := 8, nameIndex := 52, descriptorIndex := 29, attributes := #[] }] 48 2 #[] #[{ accessFlags := 24, nameIndex := 92, descriptorIndex := 93, attributes := #[] }, { accessFlags := 26, nameIndex := 96, descriptorIndex := 93, attributes := #[] }, { accessFlags := 26, nameIndex := 45, descriptorIndex := 46, attributes := #[] }, { accessFlags := 26, nameIndex := 49, descriptorIndex := 46, attributes := #[] }])
  fields := #[{ name := "FULL_WEIGHT", type := .int, accessFlags := 24, slot := 0, constantValue := 0 }, { name := "MAX_LABEL_LENGTH", type := .int, accessFlags := 26, slot := 1, constantValue := 0 }, { name := "TOKEN_CHARS", type := (.array .boolean), accessFlags := 26, slot := 2, constantValue := 0 }, { name := "AUTHORITY_CHARS", type := (.array .boolean), accessFlags := 26, slot := 3, constantValue := 0 }]
  methods := #[k2m0, k2m1]
  instanceTypes := #[]
  staticTypes := #[.int, .int, (.array .boolean), (.array .boolean)]
  resolved := Array.replicate 118 none
  statics := none }

def pool3 : Array CpInfo := pool [(1, u "java/lang/Cloneable"), (0, .class_ 1), (0, u "java/lang/Object"), (0, .class_ 3)] 3

/-- java/lang/Cloneable -/
def k3 : Class := { plain "java/lang/Cloneable" (some 0) with
  accessFlags := 1537
  interfaces := #[]
  cf := some (fileOf pool3 2 #[] #[] 1537 4 #[] #[])
  fields := #[]
  methods := #[]
  instanceTypes := #[]
  staticTypes := #[]
  resolved := Array.replicate 8 none
  statics := none }

def pool4 : Array CpInfo := pool [(1, u "java/io/Serializable"), (0, .class_ 1), (0, u "java/lang/Object"), (0, .class_ 3)] 3

/-- java/io/Serializable -/
def k4 : Class := { plain "java/io/Serializable" (some 0) with
  accessFlags := 1537
  interfaces := #[]
  cf := some (fileOf pool4 2 #[] #[] 1537 4 #[] #[])
  fields := #[]
  methods := #[]
  instanceTypes := #[]
  staticTypes := #[]
  resolved := Array.replicate 8 none
  statics := none }

/-- the primitive byte -/
def k5 : Class := { plain "byte" none with kind := .primitive 'B', accessFlags := 0x411 }
/-- [B -/
def k6 : Class := { plain "[B" (some 0) with kind := .array 5 .byte, interfaces := #[3, 4], accessFlags := 1041 }

/-- the primitive int -/
def k7 : Class := { plain "int" none with kind := .primitive 'I', accessFlags := 0x411 }
/-- [I -/
def k8 : Class := { plain "[I" (some 0) with kind := .array 7 .int, interfaces := #[3, 4], accessFlags := 1041 }

def heap : Heap := #[]
def classes : Array Class := #[k0, k1, k2, k3, k4, k5, k6, k7, k8]
def interned : List (Array UInt16 × Addr) := []
def slotsUsed : Nat := 0
def theMethod : MethodId := ⟨1, 1⟩
def args0 : Array Value := #[.int 5]
def aboutOver (below : List Frame) : State where
  vm := { classes := classes, interned := interned.toArray }
  heap := heap
  slotsUsed := slotsUsed
  threads := #[{ frames := .invoking theMethod args0 :: below }]
def below0 : List Frame := [.native { method := ⟨0, 0⟩, args := #[] }]
def about1 : State := aboutOver below0
def p0 : Program := .bare "" "" ""
def e0 : Env := launch0.env 0 0 0
theorem w_frames : about1.frames = Frame.invoking theMethod args0 :: below0 := rfl
set_option maxRecDepth 65536 in
theorem w_args : argsFit about1.vm theMethod args0 = true := by decide +kernel
set_option maxRecDepth 65536 in
theorem w_heap : heapFits about1 = true := by decide +kernel
set_option maxRecDepth 65536 in
theorem w_runnable : about1.curStatus? = some .runnable := by decide +kernel
set_option maxRecDepth 65536 in
theorem w_alone : about1.alone = true := by decide +kernel
set_option maxRecDepth 65536 in
theorem w_named : about1.methodNamed? x = some theMethod := by decide +kernel
set_option maxRecDepth 65536 in
theorem w_hears : about1.hears theMethod below0 = true := by decide +kernel
set_option maxRecDepth 65536 in
theorem w_ripe : about1.ripe theMethod args0 below0 = true := by decide +kernel
theorem w_running : about1.status = .running := rfl
set_option maxRecDepth 65536 in
theorem w_room : about1.hasRoom e0.platform room_1 = true :=
  launch0.hasRoom_least _ room_1 (by decide +kernel) (by decide +kernel) (by decide +kernel) (by decide +kernel) (by decide +kernel) (by decide +kernel)
theorem allAtoms_all (ts : List Jvm.Cond) (a : Array Jvm.Value) (st : Jvm.State) : (allAtoms ts).before a st = ts.all (fun c => c.before a st) := by
  induction ts with
  | nil => rfl
  | cons c t ih =>
    show (Jvm.Cond.and c (allAtoms t)).before a st = _
    rw [Jvm.Cond.before_and, ih, List.all_cons]
def words1 : List Jvm.Cond := Jvm.Cond.code x code maxLocals ret :: tables_1
/-- a 'code' word, met by the world's own term for the bytes: nothing is compared byte by byte -/
theorem code_word {y : MethodName} {bytes : ByteArray} {mx : Nat} {rt : Option FieldType} {a : Array Value} {s : State} {m : MethodId} {meth : Method} {c : Code} (h1 : s.methodNamed? y = some m) (h2 : s.vm.method? m = some meth) (h3 : meth.code = some c) (h4 : c.code = bytes)
    (h5 : (c.maxLocals == mx && c.exceptionTable.isEmpty && decide (c.maxStack ≤ mostOperands) && decide (meth.sig.returnType = rt) && !meth.locks && decide (parseMethodDescriptor y.desc = some meth.sig)) = true) : (Jvm.Cond.code y bytes mx rt).before a s = true := by
  simp only [Bool.and_eq_true, beq_iff_eq, Bool.not_eq_true', decide_eq_true_eq] at h5
  obtain ⟨⟨⟨⟨⟨g1, g2⟩, g3⟩, g4⟩, g5⟩, g6⟩ := h5
  simp [Cond.before, Cond.holds, Cond.value, h1, h2, h3, h4, g1, g2, g3, g4, g5, g6]
def isCode : Jvm.Cond → Bool
  | .code _ _ _ _ => true
  | _ => false
theorem all_split {L : List Jvm.Cond} {P : Jvm.Cond → Bool} (h1 : L.all (fun c => isCode c || P c) = true) (h2 : ∀ c ∈ L.filter isCode, P c = true) : L.all P = true := by
  refine List.all_eq_true.mpr fun c hc => ?_
  have h := List.all_eq_true.mp h1 c hc
  rcases Bool.eq_false_or_eq_true (isCode c) with hi | hi
  · exact h2 c (List.mem_filter.mpr ⟨hc, hi⟩)
  · simpa [hi] using h
set_option maxRecDepth 65536 in
theorem w_c0 : (Jvm.Cond.code x code maxLocals ret).before args0 about1 = true := code_word (m := ⟨1, 1⟩) (meth := k1m1) (c := k1c1) (by decide +kernel) rfl rfl rfl (by decide +kernel)
set_option maxRecDepth 65536 in
theorem w_c1 : (Jvm.Cond.code ({ cls := "com/example/kavsak/kavsak/HttpSyntax", name := "isAlpha", desc := "(C)Z" } : Jvm.MethodName) prog_18_method_11_code (1 : Nat) (Option.some Jvm.ClassFile.FieldType.boolean)).before args0 about1 = true := code_word (m := ⟨2, 1⟩) (meth := k2m1) (c := k2c1) (by decide +kernel) rfl rfl rfl (by decide +kernel)
def codes1 : List Jvm.Cond := [Jvm.Cond.code x code maxLocals ret, Jvm.Cond.code ({ cls := "com/example/kavsak/kavsak/HttpSyntax", name := "isAlpha", desc := "(C)Z" } : Jvm.MethodName) prog_18_method_11_code (1 : Nat) (Option.some Jvm.ClassFile.FieldType.boolean)]
set_option maxRecDepth 65536 in
theorem codes_eq : words1.filter isCode = codes1 := rfl
theorem w_codes : ∀ c ∈ words1.filter isCode, c.before args0 about1 = true := by
  rw [codes_eq]
  intro c hc
  simp only [codes1, List.mem_cons, List.not_mem_nil, or_false] at hc
  rcases hc with rfl | rfl
  · exact w_c0
  · exact w_c1
set_option maxRecDepth 65536 in
theorem w_t1 : words1.all (fun c => isCode c || c.before args0 about1) = true := by decide +kernel
theorem w_tables : (allAtoms (Jvm.Cond.code x code maxLocals ret :: tables_1)).before args0 about1 = true := by
  rw [allAtoms_all]
  show words1.all (fun c => c.before args0 about1) = true
  refine all_split ?_ w_codes
  rw [w_t1]
set_option maxRecDepth 65536 in
theorem w_case : (Jvm.Cond.and given_1 narrow_1).before args0 about1 = true := by decide +kernel
theorem w_applies : (headSpec (Jvm.Cond.code x code maxLocals ret :: tables_1) room_1).applies x e0.platform about1 = true :=
  (Spec.applies_iff w_frames).mpr ⟨w_running, w_runnable, w_alone, w_named, w_hears, w_ripe, w_room, w_tables⟩
theorem atStart : AtStart classFile x code maxLocals ret World_1 tables_1 room_1 Calls_1 rest_1 Pre_1 launch0 p0 e0 about1 theMethod args0 below0 :=
  ⟨lists_1, trivial, launch0.admits_env _ _ _, launch0.least_env, fairChoices_fair.cas, fairChoices_fair.clock, w_frames, w_args, w_heap, w_applies, trivial, trivial, w_case⟩
end start1
theorem witness_1 : WitnessClaimed_1 := ⟨start1.p0, start1.e0, start1.about1, start1.theMethod, start1.args0, start1.below0, start1.atStart⟩
end Jvm.Pilot.@@N@@
