import JvmDerived
import JvmDerived.Pilot.@@N@@Statement
import JvmDerived.Pilot.@@N@@Code
set_option linter.unusedVariables false
set_option linter.unusedSimpArgs false
namespace Jvm.RoadKit
open Sem ClassFile Op Lib Jvm.Stand Jvm.Free Jvm.LawKit
section New
variable {p : Program} {l : Launch} {e : Env} {R : Room} {s : State} {m : MethodId} {args : Array Value} {below : List Frame} {meth : Method} {c : Code} {T : State} {locs : List Loc} {cells slots : Nat}
theorem retI (X : Stand p l e R s m args below meth c T locs cells slots) (hx : p.tables.exec = Jvm.exec) {pc : Nat} {Ls : Array Slot} {z : Int32} {rest : List Value} (hret : meth.sig.returnType = some .int) (hd : decode c.code pc = .ok (.ireturn, 1)) {fs : List Frame}
    (hl : ∀ (f : JFrame) (acts : List Action), f.method = m → f.locked = none → f.entered = [] → (doReturn e (T.setTop f) acts (some (.int z))).1 = T.setFrames fs) : Steps p.tables e below (T.setTop (mkF m pc Ls (.int z :: rest))) (T.setFrames fs) := by
  have hm' : T.vm.method? m = some meth := X.method'
  have hn : narrow .int (.int z) = .int z := rfl
  show Steps p.tables e below (T.setTop { method := m, pc := pc, locals := Ls, stack := _ :: rest, locked := none }) _
  jvm_step X.here [X.here.top, hx, hd, hm', hret, hn]
  first | (intro acts; rw [hl _ acts rfl rfl rfl]) | rw [hl _ _ rfl rfl rfl]
  exact Steps.refl _
end New
end Jvm.RoadKit
namespace Jvm.Pilot.@@N@@
open Jvm Jvm.ClassFile Sem Op Lib Jvm.Free Jvm.Stand Jvm.LawKit Jvm.RoadKit Bundle Jvm.Pilot.@@N@@.Jvm.D

def Rch (p : Program) (e : Env) (below : List Frame) (s : State) (C S : Nat) (st : State) (K : Option Value → Heap → List Loc → Prop) : Prop :=
  ∃ s₂ v L, Steps p.tables e below st s₂ ∧ s₂.status = .running ∧ Ended s₂ below (.returned v) ∧ K v s₂.heap L ∧ FrameEnd s (.returned v) s₂ L C S
section Own
variable {p : Program} {l : Launch} {e : Env} {R : Room} {s : State} {m : MethodId} {args : Array Value} {below : List Frame} {meth : Method} {c : Code} {T : State} {locs : List Loc} {cells slots C S : Nat} {K : Option Value → Heap → List Loc → Prop}
theorem Rch.step {st st' : State} (h : ∀ t, Steps p.tables e below st' t → Steps p.tables e below st t) (k : Rch p e below s C S st' K) : Rch p e below s C S st K := by
  obtain ⟨s₂, v, L, h1, h2⟩ := k
  exact ⟨s₂, v, L, h _ h1, h2⟩
theorem Rch.imp {st : State} {K' : Option Value → Heap → List Loc → Prop} (h : ∀ v hh L, K v hh L → K' v hh L) (k : Rch p e below s C S st K) : Rch p e below s C S st K' := by
  obtain ⟨s₂, v, L, h1, h2, h3, h4, h5⟩ := k
  exact ⟨s₂, v, L, h1, h2, h3, h _ _ _ h4, h5⟩
theorem Rch.retI (X : Stand p l e R s m args below meth c T locs cells slots) (hx : p.tables.exec = Jvm.exec) (hret : meth.sig.returnType = some .int) (hlk : meth.locks = false) {pc : Nat} {Ls : Array Slot} {z : Int32} {rest : List Value} (hd : decode c.code pc = .ok (.ireturn, 1)) (hC : cells ≤ C) (hS : slots ≤ S) (hK : K (some (.int z)) T.heap locs) :
    Rch p e below s C S (T.setTop (mkF m pc Ls (.int z :: rest))) K := by
  obtain ⟨fs, hr, hrun, hended, hW, hsame⟩ := X.leave (v := some (.int z)) (fun h => by rw [hret] at h; cases h) hlk
  exact ⟨_, _, _, Jvm.RoadKit.retI X hx hret hd hr, hrun, hended, hK, ⟨_, rfl⟩, hW, hsame.mono hC hS⟩
theorem Rch.retN (X : Stand p l e R s m args below meth c T locs cells slots) (hx : p.tables.exec = Jvm.exec) {t : FieldType} (hret : meth.sig.returnType = some t) (hlk : meth.locks = false) (ht : t = .boolean ∨ t = .byte ∨ t = .char ∨ t = .short) {pc : Nat} {Ls : Array Slot} {z : Int32} {rest : List Value} (hd : decode c.code pc = .ok (.ireturn, 1)) (hC : cells ≤ C) (hS : slots ≤ S) (hK : K (some (.int (nar t z))) T.heap locs) :
    Rch p e below s C S (T.setTop (mkF m pc Ls (.int z :: rest))) K := by
  obtain ⟨fs, hr, hrun, hended, hW, hsame⟩ := X.leave (v := some (.int (nar t z))) (fun h => by rw [hret] at h; cases h) hlk
  exact ⟨_, _, _, Jvm.RoadKit.retN X hx hret ht hd hr, hrun, hended, hK, ⟨_, rfl⟩, hW, hsame.mono hC hS⟩
theorem Rch.retJ (X : Stand p l e R s m args below meth c T locs cells slots) (hx : p.tables.exec = Jvm.exec) (hret : meth.sig.returnType = some .long) (hlk : meth.locks = false) {pc : Nat} {Ls : Array Slot} {z : Int64} (hd : decode c.code pc = .ok (.lreturn, 1)) (hC : cells ≤ C) (hS : slots ≤ S) (hK : K (some (.long z)) T.heap locs) :
    Rch p e below s C S (T.setTop (mkF m pc Ls [.long z])) K := by
  obtain ⟨fs, hr, hrun, hended, hW, hsame⟩ := X.leave (v := some (.long z)) (fun h => by rw [hret] at h; cases h) hlk
  exact ⟨_, _, _, X.lreturnOut hx hret hd hr, hrun, hended, hK, ⟨_, rfl⟩, hW, hsame.mono hC hS⟩
theorem Rch.retV (X : Stand p l e R s m args below meth c T locs cells slots) (hx : p.tables.exec = Jvm.exec) (hret : meth.sig.returnType = none) (hlk : meth.locks = false) {pc : Nat} {Ls : Array Slot} (hd : decode c.code pc = .ok (.return_, 1)) (hC : cells ≤ C) (hS : slots ≤ S) (hK : K none T.heap locs) :
    Rch p e below s C S (T.setTop (mkF m pc Ls [])) K := by
  obtain ⟨fs, hr, hrun, hended, hW, hsame⟩ := X.leave (v := none) (fun _ => rfl) hlk
  exact ⟨_, _, _, X.returnOut hx hret hd hr, hrun, hended, hK, ⟨_, rfl⟩, hW, hsame.mono hC hS⟩
end Own
def PI (z : Int32) (h0 : Heap) (n0 : Nat) : Option Value → Heap → List Loc → Prop := fun v h L => v = some (.int z) ∧ Fr n0 L ∧ h = h0
def PJ (z : Int64) (h0 : Heap) (n0 : Nat) : Option Value → Heap → List Loc → Prop := fun v h L => v = some (.long z) ∧ Fr n0 L ∧ h = h0
def Cx (R : Room) (bytes : ByteArray) (ml : Nat) (own : String) (rt : Option FieldType) (p : Program) (l : Launch) (e : Env) (s : State) (m : MethodId) (args : Array Value) (below : List Frame) (meth : Method) (c : Code) (T : State) (locs : List Loc) (cells slots : Nat) (Z : State) (a0 : Array Value) (h0 : Heap) (n0 : Nat) : Prop :=
  Stand p l e R s m args below meth c T locs cells slots ∧ p.tables.exec = Jvm.exec ∧ Z.Warmed39 s.vm ∧ (∀ d ∈ tables_1, d.before a0 Z = true) ∧ c.code = bytes ∧ c.maxLocals = ml ∧ s.vm.findClass own = some m.cls ∧ meth.sig.returnType = rt ∧ meth.locks = false ∧ T.heap = h0 ∧ n0 ≤ h0.size ∧ Fr n0 locs
-- body 1
theorem d1_0 : decode prog_15_method_53_code 0 = .ok (.iload_n 0, 1) := by decide +kernel
theorem d1_1 : decode prog_15_method_53_code 1 = .ok (.tableswitch 95 12 30 #[91, 95, 95, 95, 95, 95, 91, 91, 91, 95, 91, 95, 95, 95, 91, 95, 91, 95, 91], 91) := by decide +kernel
theorem d1_92 : decode prog_15_method_53_code 92 = .ok (.iconst 1, 1) := by decide +kernel
theorem d1_93 : decode prog_15_method_53_code 93 = .ok (.goto 4, 3) := by decide +kernel
theorem d1_96 : decode prog_15_method_53_code 96 = .ok (.iconst 0, 1) := by decide +kernel
theorem d1_97 : decode prog_15_method_53_code 97 = .ok (.ireturn, 1) := by decide +kernel
theorem pn1 : plainName "com/example/vouchsafe/vouchsafe/DerReader" = true := by first | (simp [plainName, overriddenIn]; done) | decide +kernel
theorem pd1 : parseMethodDescriptor "(I)Z" = some ⟨[.int], some .boolean⟩ := by decide +kernel
def f1_0 (vi0 : Int32) : Int32 := (if vi0 = (12 : Int32) then (1 : Int32) else (if vi0 = (13 : Int32) then (0 : Int32) else (if vi0 = (14 : Int32) then (0 : Int32) else (if vi0 = (15 : Int32) then (0 : Int32) else (if vi0 = (16 : Int32) then (0 : Int32) else (if vi0 = (17 : Int32) then (0 : Int32) else (if vi0 = (18 : Int32) then (1 : Int32) else (if vi0 = (19 : Int32) then (1 : Int32) else (if vi0 = (20 : Int32) then (1 : Int32) else (if vi0 = (21 : Int32) then (0 : Int32) else (if vi0 = (22 : Int32) then (1 : Int32) else (if vi0 = (23 : Int32) then (0 : Int32) else (if vi0 = (24 : Int32) then (0 : Int32) else (if vi0 = (25 : Int32) then (0 : Int32) else (if vi0 = (26 : Int32) then (1 : Int32) else (if vi0 = (27 : Int32) then (0 : Int32) else (if vi0 = (28 : Int32) then (1 : Int32) else (if vi0 = (29 : Int32) then (0 : Int32) else (if vi0 = (30 : Int32) then (1 : Int32) else (0 : Int32))))))))))))))))))))
set_option maxRecDepth 65536 in
set_option maxHeartbeats 40000000 in
theorem b1_0 {p : Program} {l : Launch} {e : Env} {s : State} {m : MethodId} {args : Array Value} {below : List Frame} {meth : Method} {c : Code} {T : State} {locs : List Loc} {Z : State} {a0 : Array Value} {h0 : Heap} {n0 : Nat} (cx : Cx ({ frames := 0, cells := 0, slots := 0, locals := 0 } : Room) prog_15_method_53_code 1 "com/example/vouchsafe/vouchsafe/DerReader" (some .boolean) p l e s m args below meth c T locs 0 0 Z a0 h0 n0) (vi0 : Int32) :
    Rch p e below s 0 0 (T.setTop (mkF m 0 #[.val (.int vi0)] [])) (PI (f1_0 vi0) h0 n0) := by
  obtain ⟨X0, hx, hZ, hw, hby, hml, hown, hret, hlk, e0, Z0, N0⟩ := cx
  unfold f1_0
  refine Rch.step (st' := T.setTop (mkF m 1 #[.val (.int vi0)] [(.int vi0)])) (fun _ hr => XS.iloadN X0.here hx rfl (hb hby d1_0) rfl hr) ?_
  by_cases ht1_0 : vi0 = (12 : Int32)
  · rw [if_pos ht1_0]
    refine Rch.step (st' := T.setTop (mkF m 92 #[.val (.int vi0)] [])) (fun _ hr => XS.tswIn X0.here hx rfl (pc0 := 1) (pc' := 92) (o := 91) rfl (hb hby d1_1) rfl (by rw [ht1_0]; decide) (by rw [ht1_0]; rfl) (by decide) (by decide) hr) ?_
    refine Rch.step (st' := T.setTop (mkF m 93 #[.val (.int vi0)] [(.int (1 : Int32))])) (fun _ hr => XS.iconst X0.here hx rfl (hb hby d1_92) hr) ?_
    refine Rch.step (st' := T.setTop (mkF m 97 #[.val (.int vi0)] [(.int (1 : Int32))])) (fun _ hr => XS.goto X0.here hx rfl (pc0 := 93) (pc' := 97) rfl (hb hby d1_93) (by decide) (by decide) hr) ?_
    exact Rch.retN X0 hx (t := .boolean) hret hlk (by simp) (hb hby d1_97) (by decide) (by decide) ⟨rfl, N0, e0⟩
  · rw [if_neg ht1_0]
    by_cases ht1_1 : vi0 = (13 : Int32)
    · rw [if_pos ht1_1]
      refine Rch.step (st' := T.setTop (mkF m 96 #[.val (.int vi0)] [])) (fun _ hr => XS.tswIn X0.here hx rfl (pc0 := 1) (pc' := 96) (o := 95) rfl (hb hby d1_1) rfl (by rw [ht1_1]; decide) (by rw [ht1_1]; rfl) (by decide) (by decide) hr) ?_
      refine Rch.step (st' := T.setTop (mkF m 97 #[.val (.int vi0)] [(.int (0 : Int32))])) (fun _ hr => XS.iconst X0.here hx rfl (hb hby d1_96) hr) ?_
      exact Rch.retN X0 hx (t := .boolean) hret hlk (by simp) (hb hby d1_97) (by decide) (by decide) ⟨rfl, N0, e0⟩
    · rw [if_neg ht1_1]
      by_cases ht1_2 : vi0 = (14 : Int32)
      · rw [if_pos ht1_2]
        refine Rch.step (st' := T.setTop (mkF m 96 #[.val (.int vi0)] [])) (fun _ hr => XS.tswIn X0.here hx rfl (pc0 := 1) (pc' := 96) (o := 95) rfl (hb hby d1_1) rfl (by rw [ht1_2]; decide) (by rw [ht1_2]; rfl) (by decide) (by decide) hr) ?_
        refine Rch.step (st' := T.setTop (mkF m 97 #[.val (.int vi0)] [(.int (0 : Int32))])) (fun _ hr => XS.iconst X0.here hx rfl (hb hby d1_96) hr) ?_
        exact Rch.retN X0 hx (t := .boolean) hret hlk (by simp) (hb hby d1_97) (by decide) (by decide) ⟨rfl, N0, e0⟩
      · rw [if_neg ht1_2]
        by_cases ht1_3 : vi0 = (15 : Int32)
        · rw [if_pos ht1_3]
          refine Rch.step (st' := T.setTop (mkF m 96 #[.val (.int vi0)] [])) (fun _ hr => XS.tswIn X0.here hx rfl (pc0 := 1) (pc' := 96) (o := 95) rfl (hb hby d1_1) rfl (by rw [ht1_3]; decide) (by rw [ht1_3]; rfl) (by decide) (by decide) hr) ?_
          refine Rch.step (st' := T.setTop (mkF m 97 #[.val (.int vi0)] [(.int (0 : Int32))])) (fun _ hr => XS.iconst X0.here hx rfl (hb hby d1_96) hr) ?_
          exact Rch.retN X0 hx (t := .boolean) hret hlk (by simp) (hb hby d1_97) (by decide) (by decide) ⟨rfl, N0, e0⟩
        · rw [if_neg ht1_3]
          by_cases ht1_4 : vi0 = (16 : Int32)
          · rw [if_pos ht1_4]
            refine Rch.step (st' := T.setTop (mkF m 96 #[.val (.int vi0)] [])) (fun _ hr => XS.tswIn X0.here hx rfl (pc0 := 1) (pc' := 96) (o := 95) rfl (hb hby d1_1) rfl (by rw [ht1_4]; decide) (by rw [ht1_4]; rfl) (by decide) (by decide) hr) ?_
            refine Rch.step (st' := T.setTop (mkF m 97 #[.val (.int vi0)] [(.int (0 : Int32))])) (fun _ hr => XS.iconst X0.here hx rfl (hb hby d1_96) hr) ?_
            exact Rch.retN X0 hx (t := .boolean) hret hlk (by simp) (hb hby d1_97) (by decide) (by decide) ⟨rfl, N0, e0⟩
          · rw [if_neg ht1_4]
            by_cases ht1_5 : vi0 = (17 : Int32)
            · rw [if_pos ht1_5]
              refine Rch.step (st' := T.setTop (mkF m 96 #[.val (.int vi0)] [])) (fun _ hr => XS.tswIn X0.here hx rfl (pc0 := 1) (pc' := 96) (o := 95) rfl (hb hby d1_1) rfl (by rw [ht1_5]; decide) (by rw [ht1_5]; rfl) (by decide) (by decide) hr) ?_
              refine Rch.step (st' := T.setTop (mkF m 97 #[.val (.int vi0)] [(.int (0 : Int32))])) (fun _ hr => XS.iconst X0.here hx rfl (hb hby d1_96) hr) ?_
              exact Rch.retN X0 hx (t := .boolean) hret hlk (by simp) (hb hby d1_97) (by decide) (by decide) ⟨rfl, N0, e0⟩
            · rw [if_neg ht1_5]
              by_cases ht1_6 : vi0 = (18 : Int32)
              · rw [if_pos ht1_6]
                refine Rch.step (st' := T.setTop (mkF m 92 #[.val (.int vi0)] [])) (fun _ hr => XS.tswIn X0.here hx rfl (pc0 := 1) (pc' := 92) (o := 91) rfl (hb hby d1_1) rfl (by rw [ht1_6]; decide) (by rw [ht1_6]; rfl) (by decide) (by decide) hr) ?_
                refine Rch.step (st' := T.setTop (mkF m 93 #[.val (.int vi0)] [(.int (1 : Int32))])) (fun _ hr => XS.iconst X0.here hx rfl (hb hby d1_92) hr) ?_
                refine Rch.step (st' := T.setTop (mkF m 97 #[.val (.int vi0)] [(.int (1 : Int32))])) (fun _ hr => XS.goto X0.here hx rfl (pc0 := 93) (pc' := 97) rfl (hb hby d1_93) (by decide) (by decide) hr) ?_
                exact Rch.retN X0 hx (t := .boolean) hret hlk (by simp) (hb hby d1_97) (by decide) (by decide) ⟨rfl, N0, e0⟩
              · rw [if_neg ht1_6]
                by_cases ht1_7 : vi0 = (19 : Int32)
                · rw [if_pos ht1_7]
                  refine Rch.step (st' := T.setTop (mkF m 92 #[.val (.int vi0)] [])) (fun _ hr => XS.tswIn X0.here hx rfl (pc0 := 1) (pc' := 92) (o := 91) rfl (hb hby d1_1) rfl (by rw [ht1_7]; decide) (by rw [ht1_7]; rfl) (by decide) (by decide) hr) ?_
                  refine Rch.step (st' := T.setTop (mkF m 93 #[.val (.int vi0)] [(.int (1 : Int32))])) (fun _ hr => XS.iconst X0.here hx rfl (hb hby d1_92) hr) ?_
                  refine Rch.step (st' := T.setTop (mkF m 97 #[.val (.int vi0)] [(.int (1 : Int32))])) (fun _ hr => XS.goto X0.here hx rfl (pc0 := 93) (pc' := 97) rfl (hb hby d1_93) (by decide) (by decide) hr) ?_
                  exact Rch.retN X0 hx (t := .boolean) hret hlk (by simp) (hb hby d1_97) (by decide) (by decide) ⟨rfl, N0, e0⟩
                · rw [if_neg ht1_7]
                  by_cases ht1_8 : vi0 = (20 : Int32)
                  · rw [if_pos ht1_8]
                    refine Rch.step (st' := T.setTop (mkF m 92 #[.val (.int vi0)] [])) (fun _ hr => XS.tswIn X0.here hx rfl (pc0 := 1) (pc' := 92) (o := 91) rfl (hb hby d1_1) rfl (by rw [ht1_8]; decide) (by rw [ht1_8]; rfl) (by decide) (by decide) hr) ?_
                    refine Rch.step (st' := T.setTop (mkF m 93 #[.val (.int vi0)] [(.int (1 : Int32))])) (fun _ hr => XS.iconst X0.here hx rfl (hb hby d1_92) hr) ?_
                    refine Rch.step (st' := T.setTop (mkF m 97 #[.val (.int vi0)] [(.int (1 : Int32))])) (fun _ hr => XS.goto X0.here hx rfl (pc0 := 93) (pc' := 97) rfl (hb hby d1_93) (by decide) (by decide) hr) ?_
                    exact Rch.retN X0 hx (t := .boolean) hret hlk (by simp) (hb hby d1_97) (by decide) (by decide) ⟨rfl, N0, e0⟩
                  · rw [if_neg ht1_8]
                    by_cases ht1_9 : vi0 = (21 : Int32)
                    · rw [if_pos ht1_9]
                      refine Rch.step (st' := T.setTop (mkF m 96 #[.val (.int vi0)] [])) (fun _ hr => XS.tswIn X0.here hx rfl (pc0 := 1) (pc' := 96) (o := 95) rfl (hb hby d1_1) rfl (by rw [ht1_9]; decide) (by rw [ht1_9]; rfl) (by decide) (by decide) hr) ?_
                      refine Rch.step (st' := T.setTop (mkF m 97 #[.val (.int vi0)] [(.int (0 : Int32))])) (fun _ hr => XS.iconst X0.here hx rfl (hb hby d1_96) hr) ?_
                      exact Rch.retN X0 hx (t := .boolean) hret hlk (by simp) (hb hby d1_97) (by decide) (by decide) ⟨rfl, N0, e0⟩
                    · rw [if_neg ht1_9]
                      by_cases ht1_10 : vi0 = (22 : Int32)
                      · rw [if_pos ht1_10]
                        refine Rch.step (st' := T.setTop (mkF m 92 #[.val (.int vi0)] [])) (fun _ hr => XS.tswIn X0.here hx rfl (pc0 := 1) (pc' := 92) (o := 91) rfl (hb hby d1_1) rfl (by rw [ht1_10]; decide) (by rw [ht1_10]; rfl) (by decide) (by decide) hr) ?_
                        refine Rch.step (st' := T.setTop (mkF m 93 #[.val (.int vi0)] [(.int (1 : Int32))])) (fun _ hr => XS.iconst X0.here hx rfl (hb hby d1_92) hr) ?_
                        refine Rch.step (st' := T.setTop (mkF m 97 #[.val (.int vi0)] [(.int (1 : Int32))])) (fun _ hr => XS.goto X0.here hx rfl (pc0 := 93) (pc' := 97) rfl (hb hby d1_93) (by decide) (by decide) hr) ?_
                        exact Rch.retN X0 hx (t := .boolean) hret hlk (by simp) (hb hby d1_97) (by decide) (by decide) ⟨rfl, N0, e0⟩
                      · rw [if_neg ht1_10]
                        by_cases ht1_11 : vi0 = (23 : Int32)
                        · rw [if_pos ht1_11]
                          refine Rch.step (st' := T.setTop (mkF m 96 #[.val (.int vi0)] [])) (fun _ hr => XS.tswIn X0.here hx rfl (pc0 := 1) (pc' := 96) (o := 95) rfl (hb hby d1_1) rfl (by rw [ht1_11]; decide) (by rw [ht1_11]; rfl) (by decide) (by decide) hr) ?_
                          refine Rch.step (st' := T.setTop (mkF m 97 #[.val (.int vi0)] [(.int (0 : Int32))])) (fun _ hr => XS.iconst X0.here hx rfl (hb hby d1_96) hr) ?_
                          exact Rch.retN X0 hx (t := .boolean) hret hlk (by simp) (hb hby d1_97) (by decide) (by decide) ⟨rfl, N0, e0⟩
                        · rw [if_neg ht1_11]
                          by_cases ht1_12 : vi0 = (24 : Int32)
                          · rw [if_pos ht1_12]
                            refine Rch.step (st' := T.setTop (mkF m 96 #[.val (.int vi0)] [])) (fun _ hr => XS.tswIn X0.here hx rfl (pc0 := 1) (pc' := 96) (o := 95) rfl (hb hby d1_1) rfl (by rw [ht1_12]; decide) (by rw [ht1_12]; rfl) (by decide) (by decide) hr) ?_
                            refine Rch.step (st' := T.setTop (mkF m 97 #[.val (.int vi0)] [(.int (0 : Int32))])) (fun _ hr => XS.iconst X0.here hx rfl (hb hby d1_96) hr) ?_
                            exact Rch.retN X0 hx (t := .boolean) hret hlk (by simp) (hb hby d1_97) (by decide) (by decide) ⟨rfl, N0, e0⟩
                          · rw [if_neg ht1_12]
                            by_cases ht1_13 : vi0 = (25 : Int32)
                            · rw [if_pos ht1_13]
                              refine Rch.step (st' := T.setTop (mkF m 96 #[.val (.int vi0)] [])) (fun _ hr => XS.tswIn X0.here hx rfl (pc0 := 1) (pc' := 96) (o := 95) rfl (hb hby d1_1) rfl (by rw [ht1_13]; decide) (by rw [ht1_13]; rfl) (by decide) (by decide) hr) ?_
                              refine Rch.step (st' := T.setTop (mkF m 97 #[.val (.int vi0)] [(.int (0 : Int32))])) (fun _ hr => XS.iconst X0.here hx rfl (hb hby d1_96) hr) ?_
                              exact Rch.retN X0 hx (t := .boolean) hret hlk (by simp) (hb hby d1_97) (by decide) (by decide) ⟨rfl, N0, e0⟩
                            · rw [if_neg ht1_13]
                              by_cases ht1_14 : vi0 = (26 : Int32)
                              · rw [if_pos ht1_14]
                                refine Rch.step (st' := T.setTop (mkF m 92 #[.val (.int vi0)] [])) (fun _ hr => XS.tswIn X0.here hx rfl (pc0 := 1) (pc' := 92) (o := 91) rfl (hb hby d1_1) rfl (by rw [ht1_14]; decide) (by rw [ht1_14]; rfl) (by decide) (by decide) hr) ?_
                                refine Rch.step (st' := T.setTop (mkF m 93 #[.val (.int vi0)] [(.int (1 : Int32))])) (fun _ hr => XS.iconst X0.here hx rfl (hb hby d1_92) hr) ?_
                                refine Rch.step (st' := T.setTop (mkF m 97 #[.val (.int vi0)] [(.int (1 : Int32))])) (fun _ hr => XS.goto X0.here hx rfl (pc0 := 93) (pc' := 97) rfl (hb hby d1_93) (by decide) (by decide) hr) ?_
                                exact Rch.retN X0 hx (t := .boolean) hret hlk (by simp) (hb hby d1_97) (by decide) (by decide) ⟨rfl, N0, e0⟩
                              · rw [if_neg ht1_14]
                                by_cases ht1_15 : vi0 = (27 : Int32)
                                · rw [if_pos ht1_15]
                                  refine Rch.step (st' := T.setTop (mkF m 96 #[.val (.int vi0)] [])) (fun _ hr => XS.tswIn X0.here hx rfl (pc0 := 1) (pc' := 96) (o := 95) rfl (hb hby d1_1) rfl (by rw [ht1_15]; decide) (by rw [ht1_15]; rfl) (by decide) (by decide) hr) ?_
                                  refine Rch.step (st' := T.setTop (mkF m 97 #[.val (.int vi0)] [(.int (0 : Int32))])) (fun _ hr => XS.iconst X0.here hx rfl (hb hby d1_96) hr) ?_
                                  exact Rch.retN X0 hx (t := .boolean) hret hlk (by simp) (hb hby d1_97) (by decide) (by decide) ⟨rfl, N0, e0⟩
                                · rw [if_neg ht1_15]
                                  by_cases ht1_16 : vi0 = (28 : Int32)
                                  · rw [if_pos ht1_16]
                                    refine Rch.step (st' := T.setTop (mkF m 92 #[.val (.int vi0)] [])) (fun _ hr => XS.tswIn X0.here hx rfl (pc0 := 1) (pc' := 92) (o := 91) rfl (hb hby d1_1) rfl (by rw [ht1_16]; decide) (by rw [ht1_16]; rfl) (by decide) (by decide) hr) ?_
                                    refine Rch.step (st' := T.setTop (mkF m 93 #[.val (.int vi0)] [(.int (1 : Int32))])) (fun _ hr => XS.iconst X0.here hx rfl (hb hby d1_92) hr) ?_
                                    refine Rch.step (st' := T.setTop (mkF m 97 #[.val (.int vi0)] [(.int (1 : Int32))])) (fun _ hr => XS.goto X0.here hx rfl (pc0 := 93) (pc' := 97) rfl (hb hby d1_93) (by decide) (by decide) hr) ?_
                                    exact Rch.retN X0 hx (t := .boolean) hret hlk (by simp) (hb hby d1_97) (by decide) (by decide) ⟨rfl, N0, e0⟩
                                  · rw [if_neg ht1_16]
                                    by_cases ht1_17 : vi0 = (29 : Int32)
                                    · rw [if_pos ht1_17]
                                      refine Rch.step (st' := T.setTop (mkF m 96 #[.val (.int vi0)] [])) (fun _ hr => XS.tswIn X0.here hx rfl (pc0 := 1) (pc' := 96) (o := 95) rfl (hb hby d1_1) rfl (by rw [ht1_17]; decide) (by rw [ht1_17]; rfl) (by decide) (by decide) hr) ?_
                                      refine Rch.step (st' := T.setTop (mkF m 97 #[.val (.int vi0)] [(.int (0 : Int32))])) (fun _ hr => XS.iconst X0.here hx rfl (hb hby d1_96) hr) ?_
                                      exact Rch.retN X0 hx (t := .boolean) hret hlk (by simp) (hb hby d1_97) (by decide) (by decide) ⟨rfl, N0, e0⟩
                                    · rw [if_neg ht1_17]
                                      by_cases ht1_18 : vi0 = (30 : Int32)
                                      · rw [if_pos ht1_18]
                                        refine Rch.step (st' := T.setTop (mkF m 92 #[.val (.int vi0)] [])) (fun _ hr => XS.tswIn X0.here hx rfl (pc0 := 1) (pc' := 92) (o := 91) rfl (hb hby d1_1) rfl (by rw [ht1_18]; decide) (by rw [ht1_18]; rfl) (by decide) (by decide) hr) ?_
                                        refine Rch.step (st' := T.setTop (mkF m 93 #[.val (.int vi0)] [(.int (1 : Int32))])) (fun _ hr => XS.iconst X0.here hx rfl (hb hby d1_92) hr) ?_
                                        refine Rch.step (st' := T.setTop (mkF m 97 #[.val (.int vi0)] [(.int (1 : Int32))])) (fun _ hr => XS.goto X0.here hx rfl (pc0 := 93) (pc' := 97) rfl (hb hby d1_93) (by decide) (by decide) hr) ?_
                                        exact Rch.retN X0 hx (t := .boolean) hret hlk (by simp) (hb hby d1_97) (by decide) (by decide) ⟨rfl, N0, e0⟩
                                      · rw [if_neg ht1_18]
                                        have e_ht1_0 : (vi0).toInt ≠ 12 := fun q => ht1_0 (Int32.toInt_inj.mp q)
                                        have e_ht1_1 : (vi0).toInt ≠ 13 := fun q => ht1_1 (Int32.toInt_inj.mp q)
                                        have e_ht1_2 : (vi0).toInt ≠ 14 := fun q => ht1_2 (Int32.toInt_inj.mp q)
                                        have e_ht1_3 : (vi0).toInt ≠ 15 := fun q => ht1_3 (Int32.toInt_inj.mp q)
                                        have e_ht1_4 : (vi0).toInt ≠ 16 := fun q => ht1_4 (Int32.toInt_inj.mp q)
                                        have e_ht1_5 : (vi0).toInt ≠ 17 := fun q => ht1_5 (Int32.toInt_inj.mp q)
                                        have e_ht1_6 : (vi0).toInt ≠ 18 := fun q => ht1_6 (Int32.toInt_inj.mp q)
                                        have e_ht1_7 : (vi0).toInt ≠ 19 := fun q => ht1_7 (Int32.toInt_inj.mp q)
                                        have e_ht1_8 : (vi0).toInt ≠ 20 := fun q => ht1_8 (Int32.toInt_inj.mp q)
                                        have e_ht1_9 : (vi0).toInt ≠ 21 := fun q => ht1_9 (Int32.toInt_inj.mp q)
                                        have e_ht1_10 : (vi0).toInt ≠ 22 := fun q => ht1_10 (Int32.toInt_inj.mp q)
                                        have e_ht1_11 : (vi0).toInt ≠ 23 := fun q => ht1_11 (Int32.toInt_inj.mp q)
                                        have e_ht1_12 : (vi0).toInt ≠ 24 := fun q => ht1_12 (Int32.toInt_inj.mp q)
                                        have e_ht1_13 : (vi0).toInt ≠ 25 := fun q => ht1_13 (Int32.toInt_inj.mp q)
                                        have e_ht1_14 : (vi0).toInt ≠ 26 := fun q => ht1_14 (Int32.toInt_inj.mp q)
                                        have e_ht1_15 : (vi0).toInt ≠ 27 := fun q => ht1_15 (Int32.toInt_inj.mp q)
                                        have e_ht1_16 : (vi0).toInt ≠ 28 := fun q => ht1_16 (Int32.toInt_inj.mp q)
                                        have e_ht1_17 : (vi0).toInt ≠ 29 := fun q => ht1_17 (Int32.toInt_inj.mp q)
                                        have e_ht1_18 : (vi0).toInt ≠ 30 := fun q => ht1_18 (Int32.toInt_inj.mp q)
                                        refine Rch.step (st' := T.setTop (mkF m 96 #[.val (.int vi0)] [])) (fun _ hr => XS.tswOut X0.here hx rfl (pc0 := 1) (pc' := 96) rfl (hb hby d1_1) rfl (by omega) (by decide) (by decide) hr) ?_
                                        refine Rch.step (st' := T.setTop (mkF m 97 #[.val (.int vi0)] [(.int (0 : Int32))])) (fun _ hr => XS.iconst X0.here hx rfl (hb hby d1_96) hr) ?_
                                        exact Rch.retN X0 hx (t := .boolean) hret hlk (by simp) (hb hby d1_97) (by decide) (by decide) ⟨rfl, N0, e0⟩
theorem ef1 (m : MethodId) (x0 : Int32) : entryFrame m #[(.int x0)] 1 = mkF m 0 #[.val (.int x0)] [] := by first | (simp [entryFrame, mkF, argsToLocals, Value.category]; done) | rfl
set_option maxRecDepth 65536 in
set_option maxHeartbeats 40000000 in
theorem rm1 (l : Launch) (Z : State) (a0 : Array Value) (hw : ∀ d ∈ tables_1, d.before a0 Z = true) (ws : List Jvm.Cond) (vi0 : Int32) (h0 : Heap) (n0 : Nat) (Z0 : n0 ≤ h0.size) :
    MetFree l (⟨"com/example/vouchsafe/vouchsafe/DerReader", "isString", "(I)Z"⟩ : MethodName) (head1 (Jvm.Cond.code (⟨"com/example/vouchsafe/vouchsafe/DerReader", "isString", "(I)Z"⟩ : MethodName) prog_15_method_53_code 1 (some .boolean) :: ws) ({ frames := 0, cells := 0, slots := 0, locals := 0 } : Room)) (fun a U => a = #[(.int vi0)] ∧ Z.Warmed39 U.vm ∧ U.heap = h0) (fun _ _ _ _ _ => True) (fun _ U o U' => ∃ v L, o = .returned v ∧ PI (f1_0 vi0) h0 n0 v U'.heap L ∧ FrameEnd U o U' L ({ frames := 0, cells := 0, slots := 0, locals := 0 } : Room).cells ({ frames := 0, cells := 0, slots := 0, locals := 0 } : Room).slots) := by
  refine MetFree.of_bodySF (plainFor_of_name pn1) hisR ?_
  intro p e s m args below meth c s₁ Bd hml0 hP hK
  obtain ⟨rfl, hZ, hh⟩ := hP
  have hown : s.vm.findClass "com/example/vouchsafe/vouchsafe/DerReader" = some m.cls := findClass_of_methodNamed Bd.named
  have e0 : s₁.heap = h0 := by rw [← hh, Bd.state]; rfl
  obtain ⟨s₂, v, L, h1, h2, h3, h4, h5⟩ := b1_0 (T := s₁) ⟨Stand.of_body Bd, Bd.exec, hZ, hw, Bd.bytes, hml0, hown, Bd.returns, BodyLoose.notSynchronized Bd, e0, Z0, Fr.nil n0⟩ vi0
  exact ⟨s₂, .returned v, castTop (ef1 m vi0) h1, h2, h3, v, L, rfl, h4, h5⟩
-- body 2
theorem d2_0 : decode method_2_code 0 = .ok (.iload_n 0, 1) := by decide +kernel
theorem d2_1 : decode method_2_code 1 = .ok (.ifCond .lt 22, 3) := by decide +kernel
theorem d2_4 : decode method_2_code 4 = .ok (.iload_n 0, 1) := by decide +kernel
theorem d2_5 : decode method_2_code 5 = .ok (.bipush 32, 2) := by decide +kernel
theorem d2_7 : decode method_2_code 7 = .ok (.if_icmp .ge 16, 3) := by decide +kernel
theorem d2_10 : decode method_2_code 10 = .ok (.ldc 9, 2) := by decide +kernel
theorem d2_12 : decode method_2_code 12 = .ok (.iload_n 0, 1) := by decide +kernel
theorem d2_13 : decode method_2_code 13 = .ok (.iushr, 1) := by decide +kernel
theorem d2_14 : decode method_2_code 14 = .ok (.iconst 1, 1) := by decide +kernel
theorem d2_15 : decode method_2_code 15 = .ok (.iand, 1) := by decide +kernel
theorem d2_16 : decode method_2_code 16 = .ok (.ifCond .eq 7, 3) := by decide +kernel
theorem d2_19 : decode method_2_code 19 = .ok (.iconst 1, 1) := by decide +kernel
theorem d2_20 : decode method_2_code 20 = .ok (.goto 4, 3) := by decide +kernel
theorem d2_23 : decode method_2_code 23 = .ok (.iconst 0, 1) := by decide +kernel
theorem d2_24 : decode method_2_code 24 = .ok (.ireturn, 1) := by decide +kernel
theorem pn2 : plainName "com/example/vouchsafe/vouchsafe/DerReaderIsStringPinLaw" = true := by first | (simp [plainName, overriddenIn]; done) | decide +kernel
theorem pd2 : parseMethodDescriptor "(I)Z" = some ⟨[.int], some .boolean⟩ := by decide +kernel
def f2_0 (vi0 : Int32) : Int32 := (if vi0 < (0 : Int32) then (0 : Int32) else (if vi0 < (32 : Int32) then (if ((((1415319552 : Int32).toUInt32 >>> (vi0 &&& 31).toUInt32).toInt32) &&& (1 : Int32)) = (0 : Int32) then (0 : Int32) else (1 : Int32)) else (0 : Int32)))
set_option maxRecDepth 65536 in
set_option maxHeartbeats 40000000 in
theorem b2_0 {p : Program} {l : Launch} {e : Env} {s : State} {m : MethodId} {args : Array Value} {below : List Frame} {meth : Method} {c : Code} {T : State} {locs : List Loc} {Z : State} {a0 : Array Value} {h0 : Heap} {n0 : Nat} (cx : Cx ({ frames := 0, cells := 0, slots := 0, locals := 0 } : Room) method_2_code 1 "com/example/vouchsafe/vouchsafe/DerReaderIsStringPinLaw" (some .boolean) p l e s m args below meth c T locs 0 0 Z a0 h0 n0) (vi0 : Int32) :
    Rch p e below s 0 0 (T.setTop (mkF m 0 #[.val (.int vi0)] [])) (PI (f2_0 vi0) h0 n0) := by
  obtain ⟨X0, hx, hZ, hw, hby, hml, hown, hret, hlk, e0, Z0, N0⟩ := cx
  unfold f2_0
  refine Rch.step (st' := T.setTop (mkF m 1 #[.val (.int vi0)] [(.int vi0)])) (fun _ hr => XS.iloadN X0.here hx rfl (hb hby d2_0) rfl hr) ?_
  by_cases hc1 : vi0 < (0 : Int32)
  · rw [if_pos hc1]
    refine Rch.step (st' := T.setTop (mkF m 23 #[.val (.int vi0)] [])) (fun _ hr => XS.ifYes X0.here hx rfl (pc0 := 1) (pc' := 23) rfl (hb hby d2_1) rfl ((if0 _ _).trans (tlt hc1).1) (by decide) (by decide) hr) ?_
    refine Rch.step (st' := T.setTop (mkF m 24 #[.val (.int vi0)] [(.int (0 : Int32))])) (fun _ hr => XS.iconst X0.here hx rfl (hb hby d2_23) hr) ?_
    exact Rch.retN X0 hx (t := .boolean) hret hlk (by simp) (hb hby d2_24) (by decide) (by decide) ⟨rfl, N0, e0⟩
  · rw [if_neg hc1]
    refine Rch.step (st' := T.setTop (mkF m 4 #[.val (.int vi0)] [])) (fun _ hr => XS.ifNo X0.here hx rfl (hb hby d2_1) rfl ((if0 _ _).trans (flt hc1).1) hr) ?_
    refine Rch.step (st' := T.setTop (mkF m 5 #[.val (.int vi0)] [(.int vi0)])) (fun _ hr => XS.iloadN X0.here hx rfl (hb hby d2_4) rfl hr) ?_
    refine Rch.step (st' := T.setTop (mkF m 7 #[.val (.int vi0)] [(.int (32 : Int32)), (.int vi0)])) (fun _ hr => XS.bipush X0.here hx rfl (hb hby d2_5) hr) ?_
    by_cases hc2 : vi0 < (32 : Int32)
    · rw [if_pos hc2]
      refine Rch.step (st' := T.setTop (mkF m 10 #[.val (.int vi0)] [])) (fun _ hr => XS.icmpNo X0.here hx rfl (hb hby d2_7) rfl (tlt hc2).2.1 hr) ?_
      refine Rch.step (st' := T.setTop (mkF m 12 #[.val (.int vi0)] [(.int (1415319552 : Int32))])) (fun _ hr => X0.ldcInt hx hown (mvT hZ (hw _ (List.mem_of_getElem? (i := 8) rfl))) (g := (mkF m 10 #[.val (.int vi0)] [])) rfl (hb hby d2_10) _ hr) ?_
      refine Rch.step (st' := T.setTop (mkF m 13 #[.val (.int vi0)] [(.int vi0), (.int (1415319552 : Int32))])) (fun _ hr => XS.iloadN X0.here hx rfl (hb hby d2_12) rfl hr) ?_
      refine Rch.step (st' := T.setTop (mkF m 14 #[.val (.int vi0)] [(.int (((1415319552 : Int32).toUInt32 >>> (vi0 &&& 31).toUInt32).toInt32))])) (fun _ hr => XS.iushr X0.here hx rfl (hb hby d2_13) rfl hr) ?_
      refine Rch.step (st' := T.setTop (mkF m 15 #[.val (.int vi0)] [(.int (1 : Int32)), (.int (((1415319552 : Int32).toUInt32 >>> (vi0 &&& 31).toUInt32).toInt32))])) (fun _ hr => XS.iconst X0.here hx rfl (hb hby d2_14) hr) ?_
      refine Rch.step (st' := T.setTop (mkF m 16 #[.val (.int vi0)] [(.int ((((1415319552 : Int32).toUInt32 >>> (vi0 &&& 31).toUInt32).toInt32) &&& (1 : Int32)))])) (fun _ hr => XS.iand X0.here hx rfl (hb hby d2_15) rfl hr) ?_
      by_cases hc3 : ((((1415319552 : Int32).toUInt32 >>> (vi0 &&& 31).toUInt32).toInt32) &&& (1 : Int32)) = (0 : Int32)
      · rw [if_pos hc3]
        refine Rch.step (st' := T.setTop (mkF m 23 #[.val (.int vi0)] [])) (fun _ hr => XS.ifYes X0.here hx rfl (pc0 := 16) (pc' := 23) rfl (hb hby d2_16) rfl ((if0 _ _).trans (teq hc3).1) (by decide) (by decide) hr) ?_
        refine Rch.step (st' := T.setTop (mkF m 24 #[.val (.int vi0)] [(.int (0 : Int32))])) (fun _ hr => XS.iconst X0.here hx rfl (hb hby d2_23) hr) ?_
        exact Rch.retN X0 hx (t := .boolean) hret hlk (by simp) (hb hby d2_24) (by decide) (by decide) ⟨rfl, N0, e0⟩
      · rw [if_neg hc3]
        refine Rch.step (st' := T.setTop (mkF m 19 #[.val (.int vi0)] [])) (fun _ hr => XS.ifNo X0.here hx rfl (hb hby d2_16) rfl ((if0 _ _).trans (feq hc3).1) hr) ?_
        refine Rch.step (st' := T.setTop (mkF m 20 #[.val (.int vi0)] [(.int (1 : Int32))])) (fun _ hr => XS.iconst X0.here hx rfl (hb hby d2_19) hr) ?_
        refine Rch.step (st' := T.setTop (mkF m 24 #[.val (.int vi0)] [(.int (1 : Int32))])) (fun _ hr => XS.goto X0.here hx rfl (pc0 := 20) (pc' := 24) rfl (hb hby d2_20) (by decide) (by decide) hr) ?_
        exact Rch.retN X0 hx (t := .boolean) hret hlk (by simp) (hb hby d2_24) (by decide) (by decide) ⟨rfl, N0, e0⟩
    · rw [if_neg hc2]
      refine Rch.step (st' := T.setTop (mkF m 23 #[.val (.int vi0)] [])) (fun _ hr => XS.icmpYes X0.here hx rfl (pc0 := 7) (pc' := 23) rfl (hb hby d2_7) rfl (flt hc2).2.1 (by decide) (by decide) hr) ?_
      refine Rch.step (st' := T.setTop (mkF m 24 #[.val (.int vi0)] [(.int (0 : Int32))])) (fun _ hr => XS.iconst X0.here hx rfl (hb hby d2_23) hr) ?_
      exact Rch.retN X0 hx (t := .boolean) hret hlk (by simp) (hb hby d2_24) (by decide) (by decide) ⟨rfl, N0, e0⟩
theorem ef2 (m : MethodId) (x0 : Int32) : entryFrame m #[(.int x0)] 1 = mkF m 0 #[.val (.int x0)] [] := by first | (simp [entryFrame, mkF, argsToLocals, Value.category]; done) | rfl
set_option maxRecDepth 65536 in
set_option maxHeartbeats 40000000 in
theorem rm2 (l : Launch) (Z : State) (a0 : Array Value) (hw : ∀ d ∈ tables_1, d.before a0 Z = true) (ws : List Jvm.Cond) (vi0 : Int32) (h0 : Heap) (n0 : Nat) (Z0 : n0 ≤ h0.size) :
    MetFree l (⟨"com/example/vouchsafe/vouchsafe/DerReaderIsStringPinLaw", "reference", "(I)Z"⟩ : MethodName) (head1 (Jvm.Cond.code (⟨"com/example/vouchsafe/vouchsafe/DerReaderIsStringPinLaw", "reference", "(I)Z"⟩ : MethodName) method_2_code 1 (some .boolean) :: ws) ({ frames := 0, cells := 0, slots := 0, locals := 0 } : Room)) (fun a U => a = #[(.int vi0)] ∧ Z.Warmed39 U.vm ∧ U.heap = h0) (fun _ _ _ _ _ => True) (fun _ U o U' => ∃ v L, o = .returned v ∧ PI (f2_0 vi0) h0 n0 v U'.heap L ∧ FrameEnd U o U' L ({ frames := 0, cells := 0, slots := 0, locals := 0 } : Room).cells ({ frames := 0, cells := 0, slots := 0, locals := 0 } : Room).slots) := by
  refine MetFree.of_bodySF (plainFor_of_name pn2) hisR ?_
  intro p e s m args below meth c s₁ Bd hml0 hP hK
  obtain ⟨rfl, hZ, hh⟩ := hP
  have hown : s.vm.findClass "com/example/vouchsafe/vouchsafe/DerReaderIsStringPinLaw" = some m.cls := findClass_of_methodNamed Bd.named
  have e0 : s₁.heap = h0 := by rw [← hh, Bd.state]; rfl
  obtain ⟨s₂, v, L, h1, h2, h3, h4, h5⟩ := b2_0 (T := s₁) ⟨Stand.of_body Bd, Bd.exec, hZ, hw, Bd.bytes, hml0, hown, Bd.returns, BodyLoose.notSynchronized Bd, e0, Z0, Fr.nil n0⟩ vi0
  exact ⟨s₂, .returned v, castTop (ef2 m vi0) h1, h2, h3, v, L, rfl, h4, h5⟩
-- body 0
theorem pn0 : plainName "com/example/vouchsafe/vouchsafe/DerReaderIsStringPinLaw" = true := by first | (simp [plainName, overriddenIn]; done) | decide +kernel
def f0_65 (vi4 : Int32) (vi5 : Int32) (si0 : Int32) : Int32 := (if vi4 = (0 : Int32) then (0 : Int32) else (if vi5 = (0 : Int32) then (0 : Int32) else (if si0 = (0 : Int32) then (0 : Int32) else (1 : Int32))))
def f0_47 (vi3 : Int32) (vi4 : Int32) (si0 : Int32) : Int32 := (if (f1_0 vi3) = (f2_0 vi3) then (f0_65 vi4 si0 (1 : Int32)) else (f0_65 vi4 si0 (0 : Int32)))
def f0_29 (vi2 : Int32) (vi3 : Int32) (si0 : Int32) : Int32 := (if (f1_0 vi2) = (f2_0 vi2) then (f0_47 vi3 si0 (1 : Int32)) else (f0_47 vi3 si0 (0 : Int32)))
def f0_0 (vi0 : Int32) : Int32 := (if (f1_0 vi0) = (f2_0 vi0) then (f0_29 (vi0 &&& (31 : Int32)) (vi0 &&& (255 : Int32)) (1 : Int32)) else (f0_29 (vi0 &&& (31 : Int32)) (vi0 &&& (255 : Int32)) (0 : Int32)))
set_option maxRecDepth 65536 in
set_option maxHeartbeats 40000000 in
theorem b0_65 {p : Program} {l : Launch} {e : Env} {s : State} {m : MethodId} {args : Array Value} {below : List Frame} {meth : Method} {c : Code} {T : State} {locs : List Loc} {Z : State} {a0 : Array Value} {h0 : Heap} {n0 : Nat} (cx : Cx room_1 code 7 "com/example/vouchsafe/vouchsafe/DerReaderIsStringPinLaw" (some .boolean) p l e s m args below meth c T locs 0 0 Z a0 h0 n0) (vi0 : Int32) (vi1 : Int32) (vi2 : Int32) (vi3 : Int32) (vi4 : Int32) (vi5 : Int32) (si0 : Int32) :
    Rch p e below s 0 0 (T.setTop (mkF m 65 #[.val (.int vi0), .val (.int vi1), .val (.int vi2), .val (.int vi3), .val (.int vi4), .val (.int vi5), .unset] [(.int si0)])) (PI (f0_65 vi4 vi5 si0) h0 n0) := by
  obtain ⟨X0, hx, hZ, hw, hby, hml, hown, hret, hlk, e0, Z0, N0⟩ := cx
  unfold f0_65
  refine Rch.step (st' := T.setTop (mkF m 67 #[.val (.int vi0), .val (.int vi1), .val (.int vi2), .val (.int vi3), .val (.int vi4), .val (.int vi5), .val (.int si0)] [])) (fun _ hr => XS.istore X0.here hx rfl (hb hby at_65) rfl (l' := #[.val (.int vi0), .val (.int vi1), .val (.int vi2), .val (.int vi3), .val (.int vi4), .val (.int vi5), .val (.int si0)]) rfl hr) ?_
  refine Rch.step (st' := T.setTop (mkF m 69 #[.val (.int vi0), .val (.int vi1), .val (.int vi2), .val (.int vi3), .val (.int vi4), .val (.int vi5), .val (.int si0)] [(.int vi4)])) (fun _ hr => XS.iload X0.here hx rfl (hb hby at_67) rfl hr) ?_
  by_cases hc1 : vi4 = (0 : Int32)
  · rw [if_pos hc1]
    refine Rch.step (st' := T.setTop (mkF m 86 #[.val (.int vi0), .val (.int vi1), .val (.int vi2), .val (.int vi3), .val (.int vi4), .val (.int vi5), .val (.int si0)] [])) (fun _ hr => XS.ifYes X0.here hx rfl (pc0 := 69) (pc' := 86) rfl (hb hby at_69) rfl ((if0 _ _).trans (teq hc1).1) (by decide) (by decide) hr) ?_
    refine Rch.step (st' := T.setTop (mkF m 87 #[.val (.int vi0), .val (.int vi1), .val (.int vi2), .val (.int vi3), .val (.int vi4), .val (.int vi5), .val (.int si0)] [(.int (0 : Int32))])) (fun _ hr => XS.iconst X0.here hx rfl (hb hby at_86) hr) ?_
    exact Rch.retN X0 hx (t := .boolean) hret hlk (by simp) (hb hby at_87) (by decide) (by decide) ⟨rfl, N0, e0⟩
  · rw [if_neg hc1]
    refine Rch.step (st' := T.setTop (mkF m 72 #[.val (.int vi0), .val (.int vi1), .val (.int vi2), .val (.int vi3), .val (.int vi4), .val (.int vi5), .val (.int si0)] [])) (fun _ hr => XS.ifNo X0.here hx rfl (hb hby at_69) rfl ((if0 _ _).trans (feq hc1).1) hr) ?_
    refine Rch.step (st' := T.setTop (mkF m 74 #[.val (.int vi0), .val (.int vi1), .val (.int vi2), .val (.int vi3), .val (.int vi4), .val (.int vi5), .val (.int si0)] [(.int vi5)])) (fun _ hr => XS.iload X0.here hx rfl (hb hby at_72) rfl hr) ?_
    by_cases hc2 : vi5 = (0 : Int32)
    · rw [if_pos hc2]
      refine Rch.step (st' := T.setTop (mkF m 86 #[.val (.int vi0), .val (.int vi1), .val (.int vi2), .val (.int vi3), .val (.int vi4), .val (.int vi5), .val (.int si0)] [])) (fun _ hr => XS.ifYes X0.here hx rfl (pc0 := 74) (pc' := 86) rfl (hb hby at_74) rfl ((if0 _ _).trans (teq hc2).1) (by decide) (by decide) hr) ?_
      refine Rch.step (st' := T.setTop (mkF m 87 #[.val (.int vi0), .val (.int vi1), .val (.int vi2), .val (.int vi3), .val (.int vi4), .val (.int vi5), .val (.int si0)] [(.int (0 : Int32))])) (fun _ hr => XS.iconst X0.here hx rfl (hb hby at_86) hr) ?_
      exact Rch.retN X0 hx (t := .boolean) hret hlk (by simp) (hb hby at_87) (by decide) (by decide) ⟨rfl, N0, e0⟩
    · rw [if_neg hc2]
      refine Rch.step (st' := T.setTop (mkF m 77 #[.val (.int vi0), .val (.int vi1), .val (.int vi2), .val (.int vi3), .val (.int vi4), .val (.int vi5), .val (.int si0)] [])) (fun _ hr => XS.ifNo X0.here hx rfl (hb hby at_74) rfl ((if0 _ _).trans (feq hc2).1) hr) ?_
      refine Rch.step (st' := T.setTop (mkF m 79 #[.val (.int vi0), .val (.int vi1), .val (.int vi2), .val (.int vi3), .val (.int vi4), .val (.int vi5), .val (.int si0)] [(.int si0)])) (fun _ hr => XS.iload X0.here hx rfl (hb hby at_77) rfl hr) ?_
      by_cases hc3 : si0 = (0 : Int32)
      · rw [if_pos hc3]
        refine Rch.step (st' := T.setTop (mkF m 86 #[.val (.int vi0), .val (.int vi1), .val (.int vi2), .val (.int vi3), .val (.int vi4), .val (.int vi5), .val (.int si0)] [])) (fun _ hr => XS.ifYes X0.here hx rfl (pc0 := 79) (pc' := 86) rfl (hb hby at_79) rfl ((if0 _ _).trans (teq hc3).1) (by decide) (by decide) hr) ?_
        refine Rch.step (st' := T.setTop (mkF m 87 #[.val (.int vi0), .val (.int vi1), .val (.int vi2), .val (.int vi3), .val (.int vi4), .val (.int vi5), .val (.int si0)] [(.int (0 : Int32))])) (fun _ hr => XS.iconst X0.here hx rfl (hb hby at_86) hr) ?_
        exact Rch.retN X0 hx (t := .boolean) hret hlk (by simp) (hb hby at_87) (by decide) (by decide) ⟨rfl, N0, e0⟩
      · rw [if_neg hc3]
        refine Rch.step (st' := T.setTop (mkF m 82 #[.val (.int vi0), .val (.int vi1), .val (.int vi2), .val (.int vi3), .val (.int vi4), .val (.int vi5), .val (.int si0)] [])) (fun _ hr => XS.ifNo X0.here hx rfl (hb hby at_79) rfl ((if0 _ _).trans (feq hc3).1) hr) ?_
        refine Rch.step (st' := T.setTop (mkF m 83 #[.val (.int vi0), .val (.int vi1), .val (.int vi2), .val (.int vi3), .val (.int vi4), .val (.int vi5), .val (.int si0)] [(.int (1 : Int32))])) (fun _ hr => XS.iconst X0.here hx rfl (hb hby at_82) hr) ?_
        refine Rch.step (st' := T.setTop (mkF m 87 #[.val (.int vi0), .val (.int vi1), .val (.int vi2), .val (.int vi3), .val (.int vi4), .val (.int vi5), .val (.int si0)] [(.int (1 : Int32))])) (fun _ hr => XS.goto X0.here hx rfl (pc0 := 83) (pc' := 87) rfl (hb hby at_83) (by decide) (by decide) hr) ?_
        exact Rch.retN X0 hx (t := .boolean) hret hlk (by simp) (hb hby at_87) (by decide) (by decide) ⟨rfl, N0, e0⟩
set_option maxRecDepth 65536 in
set_option maxHeartbeats 40000000 in
theorem b0_47 {p : Program} {l : Launch} {e : Env} {s : State} {m : MethodId} {args : Array Value} {below : List Frame} {meth : Method} {c : Code} {T : State} {locs : List Loc} {Z : State} {a0 : Array Value} {h0 : Heap} {n0 : Nat} (cx : Cx room_1 code 7 "com/example/vouchsafe/vouchsafe/DerReaderIsStringPinLaw" (some .boolean) p l e s m args below meth c T locs 0 0 Z a0 h0 n0) (vi0 : Int32) (vi1 : Int32) (vi2 : Int32) (vi3 : Int32) (vi4 : Int32) (si0 : Int32) :
    Rch p e below s 0 0 (T.setTop (mkF m 47 #[.val (.int vi0), .val (.int vi1), .val (.int vi2), .val (.int vi3), .val (.int vi4), .unset, .unset] [(.int si0)])) (PI (f0_47 vi3 vi4 si0) h0 n0) := by
  obtain ⟨X0, hx, hZ, hw, hby, hml, hown, hret, hlk, e0, Z0, N0⟩ := cx
  unfold f0_47
  refine Rch.step (st' := T.setTop (mkF m 49 #[.val (.int vi0), .val (.int vi1), .val (.int vi2), .val (.int vi3), .val (.int vi4), .val (.int si0), .unset] [])) (fun _ hr => XS.istore X0.here hx rfl (hb hby at_47) rfl (l' := #[.val (.int vi0), .val (.int vi1), .val (.int vi2), .val (.int vi3), .val (.int vi4), .val (.int si0), .unset]) rfl hr) ?_
  refine Rch.step (st' := T.setTop (mkF m 50 #[.val (.int vi0), .val (.int vi1), .val (.int vi2), .val (.int vi3), .val (.int vi4), .val (.int si0), .unset] [(.int vi3)])) (fun _ hr => XS.iloadN X0.here hx rfl (hb hby at_49) rfl hr) ?_
  obtain ⟨_, _, ⟨T1, L1, k1, n1⟩, -, X1, ⟨Lc1, hQ1, l1, y1, z1⟩, st1⟩ := Jvm.LawKit.callS X0 hx (y := (⟨"com/example/vouchsafe/vouchsafe/DerReader", "isString", "(I)Z"⟩ : MethodName)) hown (mvT hZ (hw _ (List.mem_of_getElem? (i := 0) rfl))) (mvT hZ (hw _ (List.mem_of_getElem? (i := 1) rfl))) (mvT hZ (hw _ (List.mem_of_getElem? (i := 2) rfl))) (mvT hZ (hw _ (List.mem_of_getElem? (i := 3) rfl))) (by decide) (backOf (W := 0) (rm1 l Z a0 hw [] vi3 h0 n0 Z0) hZ (hw _ (List.mem_of_getElem? (i := 3) rfl)) (hw _ (List.mem_of_getElem? (i := 2) rfl)) (by decide) (by decide)) (g := (mkF m 50 #[.val (.int vi0), .val (.int vi1), .val (.int vi2), .val (.int vi3), .val (.int vi4), .val (.int si0), .unset] [(.int vi3)])) rfl (by rw [hml]; rfl) (argsL := [(.int vi3)]) (rest := []) (lenOf pd1 rfl) rfl (by show 2 * 0 + _ ≤ _; exact Nat.le_of_eq rfl) (hb hby at_50) (fun _ _ => ⟨rfl, e0, (by decide : 0 + 0 ≤ _), (by decide : 0 + 0 ≤ _)⟩)
  dsimp only [Pt.U, Pt.locs, Pt.cells, Pt.slots] at X1 l1 y1 z1 st1 hQ1
  subst l1 y1 z1
  obtain ⟨rfl, N1q, e1⟩ := hQ1
  have N1 := Fr.app N0 N1q
  refine Rch.step (st' := T1.setTop (mkF m 53 #[.val (.int vi0), .val (.int vi1), .val (.int vi2), .val (.int vi3), .val (.int vi4), .val (.int si0), .unset] [(.int (f1_0 vi3))])) (fun _ hr => st1 _ hr) ?_
  refine Rch.step (st' := T1.setTop (mkF m 54 #[.val (.int vi0), .val (.int vi1), .val (.int vi2), .val (.int vi3), .val (.int vi4), .val (.int si0), .unset] [(.int vi3), (.int (f1_0 vi3))])) (fun _ hr => XS.iloadN X1.here hx rfl (hb hby at_53) rfl hr) ?_
  obtain ⟨_, _, ⟨T2, L2, k2, n2⟩, -, X2, ⟨Lc2, hQ2, l2, y2, z2⟩, st2⟩ := Jvm.LawKit.callS X1 hx (y := (⟨"com/example/vouchsafe/vouchsafe/DerReaderIsStringPinLaw", "reference", "(I)Z"⟩ : MethodName)) hown (mvT hZ (hw _ (List.mem_of_getElem? (i := 4) rfl))) (mvT hZ (hw _ (List.mem_of_getElem? (i := 5) rfl))) (mvT hZ (hw _ (List.mem_of_getElem? (i := 6) rfl))) (mvT hZ (hw _ (List.mem_of_getElem? (i := 7) rfl))) (by decide) (backOf (W := 1) (rm2 l Z a0 hw [] vi3 h0 n0 Z0) hZ (hw _ (List.mem_of_getElem? (i := 7) rfl)) (hw _ (List.mem_of_getElem? (i := 6) rfl)) (by decide) (by decide)) (g := (mkF m 54 #[.val (.int vi0), .val (.int vi1), .val (.int vi2), .val (.int vi3), .val (.int vi4), .val (.int si0), .unset] [(.int vi3), (.int (f1_0 vi3))])) rfl (by rw [hml]; rfl) (argsL := [(.int vi3)]) (rest := [(.int (f1_0 vi3))]) (lenOf pd2 rfl) rfl (by show 2 * 0 + _ ≤ _; exact Nat.le_of_eq rfl) (hb hby at_54) (fun _ _ => ⟨rfl, e1, (by decide : 0 + 0 ≤ _), (by decide : 0 + 0 ≤ _)⟩)
  dsimp only [Pt.U, Pt.locs, Pt.cells, Pt.slots] at X2 l2 y2 z2 st2 hQ2
  subst l2 y2 z2
  obtain ⟨rfl, N2q, e2⟩ := hQ2
  have N2 := Fr.app N1 N2q
  refine Rch.step (st' := T2.setTop (mkF m 57 #[.val (.int vi0), .val (.int vi1), .val (.int vi2), .val (.int vi3), .val (.int vi4), .val (.int si0), .unset] [(.int (f2_0 vi3)), (.int (f1_0 vi3))])) (fun _ hr => st2 _ hr) ?_
  by_cases hc3 : (f1_0 vi3) = (f2_0 vi3)
  · rw [if_pos hc3]
    refine Rch.step (st' := T2.setTop (mkF m 60 #[.val (.int vi0), .val (.int vi1), .val (.int vi2), .val (.int vi3), .val (.int vi4), .val (.int si0), .unset] [])) (fun _ hr => XS.icmpNo X2.here hx rfl (hb hby at_57) rfl (teq hc3).2 hr) ?_
    refine Rch.step (st' := T2.setTop (mkF m 61 #[.val (.int vi0), .val (.int vi1), .val (.int vi2), .val (.int vi3), .val (.int vi4), .val (.int si0), .unset] [(.int (1 : Int32))])) (fun _ hr => XS.iconst X2.here hx rfl (hb hby at_60) hr) ?_
    refine Rch.step (st' := T2.setTop (mkF m 65 #[.val (.int vi0), .val (.int vi1), .val (.int vi2), .val (.int vi3), .val (.int vi4), .val (.int si0), .unset] [(.int (1 : Int32))])) (fun _ hr => XS.goto X2.here hx rfl (pc0 := 61) (pc' := 65) rfl (hb hby at_61) (by decide) (by decide) hr) ?_
    exact b0_65 ⟨X2, hx, hZ, hw, hby, hml, hown, hret, hlk, e2, Z0, N2⟩ vi0 vi1 vi2 vi3 vi4 si0 (1 : Int32)
  · rw [if_neg hc3]
    refine Rch.step (st' := T2.setTop (mkF m 64 #[.val (.int vi0), .val (.int vi1), .val (.int vi2), .val (.int vi3), .val (.int vi4), .val (.int si0), .unset] [])) (fun _ hr => XS.icmpYes X2.here hx rfl (pc0 := 57) (pc' := 64) rfl (hb hby at_57) rfl (feq hc3).2 (by decide) (by decide) hr) ?_
    refine Rch.step (st' := T2.setTop (mkF m 65 #[.val (.int vi0), .val (.int vi1), .val (.int vi2), .val (.int vi3), .val (.int vi4), .val (.int si0), .unset] [(.int (0 : Int32))])) (fun _ hr => XS.iconst X2.here hx rfl (hb hby at_64) hr) ?_
    exact b0_65 ⟨X2, hx, hZ, hw, hby, hml, hown, hret, hlk, e2, Z0, N2⟩ vi0 vi1 vi2 vi3 vi4 si0 (0 : Int32)
set_option maxRecDepth 65536 in
set_option maxHeartbeats 40000000 in
theorem b0_29 {p : Program} {l : Launch} {e : Env} {s : State} {m : MethodId} {args : Array Value} {below : List Frame} {meth : Method} {c : Code} {T : State} {locs : List Loc} {Z : State} {a0 : Array Value} {h0 : Heap} {n0 : Nat} (cx : Cx room_1 code 7 "com/example/vouchsafe/vouchsafe/DerReaderIsStringPinLaw" (some .boolean) p l e s m args below meth c T locs 0 0 Z a0 h0 n0) (vi0 : Int32) (vi1 : Int32) (vi2 : Int32) (vi3 : Int32) (si0 : Int32) :
    Rch p e below s 0 0 (T.setTop (mkF m 29 #[.val (.int vi0), .val (.int vi1), .val (.int vi2), .val (.int vi3), .unset, .unset, .unset] [(.int si0)])) (PI (f0_29 vi2 vi3 si0) h0 n0) := by
  obtain ⟨X0, hx, hZ, hw, hby, hml, hown, hret, hlk, e0, Z0, N0⟩ := cx
  unfold f0_29
  refine Rch.step (st' := T.setTop (mkF m 31 #[.val (.int vi0), .val (.int vi1), .val (.int vi2), .val (.int vi3), .val (.int si0), .unset, .unset] [])) (fun _ hr => XS.istore X0.here hx rfl (hb hby at_29) rfl (l' := #[.val (.int vi0), .val (.int vi1), .val (.int vi2), .val (.int vi3), .val (.int si0), .unset, .unset]) rfl hr) ?_
  refine Rch.step (st' := T.setTop (mkF m 32 #[.val (.int vi0), .val (.int vi1), .val (.int vi2), .val (.int vi3), .val (.int si0), .unset, .unset] [(.int vi2)])) (fun _ hr => XS.iloadN X0.here hx rfl (hb hby at_31) rfl hr) ?_
  obtain ⟨_, _, ⟨T1, L1, k1, n1⟩, -, X1, ⟨Lc1, hQ1, l1, y1, z1⟩, st1⟩ := Jvm.LawKit.callS X0 hx (y := (⟨"com/example/vouchsafe/vouchsafe/DerReader", "isString", "(I)Z"⟩ : MethodName)) hown (mvT hZ (hw _ (List.mem_of_getElem? (i := 0) rfl))) (mvT hZ (hw _ (List.mem_of_getElem? (i := 1) rfl))) (mvT hZ (hw _ (List.mem_of_getElem? (i := 2) rfl))) (mvT hZ (hw _ (List.mem_of_getElem? (i := 3) rfl))) (by decide) (backOf (W := 0) (rm1 l Z a0 hw [] vi2 h0 n0 Z0) hZ (hw _ (List.mem_of_getElem? (i := 3) rfl)) (hw _ (List.mem_of_getElem? (i := 2) rfl)) (by decide) (by decide)) (g := (mkF m 32 #[.val (.int vi0), .val (.int vi1), .val (.int vi2), .val (.int vi3), .val (.int si0), .unset, .unset] [(.int vi2)])) rfl (by rw [hml]; rfl) (argsL := [(.int vi2)]) (rest := []) (lenOf pd1 rfl) rfl (by show 2 * 0 + _ ≤ _; exact Nat.le_of_eq rfl) (hb hby at_32) (fun _ _ => ⟨rfl, e0, (by decide : 0 + 0 ≤ _), (by decide : 0 + 0 ≤ _)⟩)
  dsimp only [Pt.U, Pt.locs, Pt.cells, Pt.slots] at X1 l1 y1 z1 st1 hQ1
  subst l1 y1 z1
  obtain ⟨rfl, N1q, e1⟩ := hQ1
  have N1 := Fr.app N0 N1q
  refine Rch.step (st' := T1.setTop (mkF m 35 #[.val (.int vi0), .val (.int vi1), .val (.int vi2), .val (.int vi3), .val (.int si0), .unset, .unset] [(.int (f1_0 vi2))])) (fun _ hr => st1 _ hr) ?_
  refine Rch.step (st' := T1.setTop (mkF m 36 #[.val (.int vi0), .val (.int vi1), .val (.int vi2), .val (.int vi3), .val (.int si0), .unset, .unset] [(.int vi2), (.int (f1_0 vi2))])) (fun _ hr => XS.iloadN X1.here hx rfl (hb hby at_35) rfl hr) ?_
  obtain ⟨_, _, ⟨T2, L2, k2, n2⟩, -, X2, ⟨Lc2, hQ2, l2, y2, z2⟩, st2⟩ := Jvm.LawKit.callS X1 hx (y := (⟨"com/example/vouchsafe/vouchsafe/DerReaderIsStringPinLaw", "reference", "(I)Z"⟩ : MethodName)) hown (mvT hZ (hw _ (List.mem_of_getElem? (i := 4) rfl))) (mvT hZ (hw _ (List.mem_of_getElem? (i := 5) rfl))) (mvT hZ (hw _ (List.mem_of_getElem? (i := 6) rfl))) (mvT hZ (hw _ (List.mem_of_getElem? (i := 7) rfl))) (by decide) (backOf (W := 1) (rm2 l Z a0 hw [] vi2 h0 n0 Z0) hZ (hw _ (List.mem_of_getElem? (i := 7) rfl)) (hw _ (List.mem_of_getElem? (i := 6) rfl)) (by decide) (by decide)) (g := (mkF m 36 #[.val (.int vi0), .val (.int vi1), .val (.int vi2), .val (.int vi3), .val (.int si0), .unset, .unset] [(.int vi2), (.int (f1_0 vi2))])) rfl (by rw [hml]; rfl) (argsL := [(.int vi2)]) (rest := [(.int (f1_0 vi2))]) (lenOf pd2 rfl) rfl (by show 2 * 0 + _ ≤ _; exact Nat.le_of_eq rfl) (hb hby at_36) (fun _ _ => ⟨rfl, e1, (by decide : 0 + 0 ≤ _), (by decide : 0 + 0 ≤ _)⟩)
  dsimp only [Pt.U, Pt.locs, Pt.cells, Pt.slots] at X2 l2 y2 z2 st2 hQ2
  subst l2 y2 z2
  obtain ⟨rfl, N2q, e2⟩ := hQ2
  have N2 := Fr.app N1 N2q
  refine Rch.step (st' := T2.setTop (mkF m 39 #[.val (.int vi0), .val (.int vi1), .val (.int vi2), .val (.int vi3), .val (.int si0), .unset, .unset] [(.int (f2_0 vi2)), (.int (f1_0 vi2))])) (fun _ hr => st2 _ hr) ?_
  by_cases hc3 : (f1_0 vi2) = (f2_0 vi2)
  · rw [if_pos hc3]
    refine Rch.step (st' := T2.setTop (mkF m 42 #[.val (.int vi0), .val (.int vi1), .val (.int vi2), .val (.int vi3), .val (.int si0), .unset, .unset] [])) (fun _ hr => XS.icmpNo X2.here hx rfl (hb hby at_39) rfl (teq hc3).2 hr) ?_
    refine Rch.step (st' := T2.setTop (mkF m 43 #[.val (.int vi0), .val (.int vi1), .val (.int vi2), .val (.int vi3), .val (.int si0), .unset, .unset] [(.int (1 : Int32))])) (fun _ hr => XS.iconst X2.here hx rfl (hb hby at_42) hr) ?_
    refine Rch.step (st' := T2.setTop (mkF m 47 #[.val (.int vi0), .val (.int vi1), .val (.int vi2), .val (.int vi3), .val (.int si0), .unset, .unset] [(.int (1 : Int32))])) (fun _ hr => XS.goto X2.here hx rfl (pc0 := 43) (pc' := 47) rfl (hb hby at_43) (by decide) (by decide) hr) ?_
    exact b0_47 ⟨X2, hx, hZ, hw, hby, hml, hown, hret, hlk, e2, Z0, N2⟩ vi0 vi1 vi2 vi3 si0 (1 : Int32)
  · rw [if_neg hc3]
    refine Rch.step (st' := T2.setTop (mkF m 46 #[.val (.int vi0), .val (.int vi1), .val (.int vi2), .val (.int vi3), .val (.int si0), .unset, .unset] [])) (fun _ hr => XS.icmpYes X2.here hx rfl (pc0 := 39) (pc' := 46) rfl (hb hby at_39) rfl (feq hc3).2 (by decide) (by decide) hr) ?_
    refine Rch.step (st' := T2.setTop (mkF m 47 #[.val (.int vi0), .val (.int vi1), .val (.int vi2), .val (.int vi3), .val (.int si0), .unset, .unset] [(.int (0 : Int32))])) (fun _ hr => XS.iconst X2.here hx rfl (hb hby at_46) hr) ?_
    exact b0_47 ⟨X2, hx, hZ, hw, hby, hml, hown, hret, hlk, e2, Z0, N2⟩ vi0 vi1 vi2 vi3 si0 (0 : Int32)
set_option maxRecDepth 65536 in
set_option maxHeartbeats 40000000 in
theorem b0_0 {p : Program} {l : Launch} {e : Env} {s : State} {m : MethodId} {args : Array Value} {below : List Frame} {meth : Method} {c : Code} {T : State} {locs : List Loc} {Z : State} {a0 : Array Value} {h0 : Heap} {n0 : Nat} (cx : Cx room_1 code 7 "com/example/vouchsafe/vouchsafe/DerReaderIsStringPinLaw" (some .boolean) p l e s m args below meth c T locs 0 0 Z a0 h0 n0) (vi0 : Int32) :
    Rch p e below s 0 0 (T.setTop (mkF m 0 #[.val (.int vi0), .unset, .unset, .unset, .unset, .unset, .unset] [])) (PI (f0_0 vi0) h0 n0) := by
  obtain ⟨X0, hx, hZ, hw, hby, hml, hown, hret, hlk, e0, Z0, N0⟩ := cx
  unfold f0_0
  refine Rch.step (st' := T.setTop (mkF m 1 #[.val (.int vi0), .unset, .unset, .unset, .unset, .unset, .unset] [(.int vi0)])) (fun _ hr => XS.iloadN X0.here hx rfl (hb hby at_0) rfl hr) ?_
  refine Rch.step (st' := T.setTop (mkF m 2 #[.val (.int vi0), .val (.int vi0), .unset, .unset, .unset, .unset, .unset] [])) (fun _ hr => XS.istoreN X0.here hx rfl (hb hby at_1) rfl (l' := #[.val (.int vi0), .val (.int vi0), .unset, .unset, .unset, .unset, .unset]) rfl hr) ?_
  refine Rch.step (st' := T.setTop (mkF m 3 #[.val (.int vi0), .val (.int vi0), .unset, .unset, .unset, .unset, .unset] [(.int vi0)])) (fun _ hr => XS.iloadN X0.here hx rfl (hb hby at_2) rfl hr) ?_
  refine Rch.step (st' := T.setTop (mkF m 5 #[.val (.int vi0), .val (.int vi0), .unset, .unset, .unset, .unset, .unset] [(.int (31 : Int32)), (.int vi0)])) (fun _ hr => XS.bipush X0.here hx rfl (hb hby at_3) hr) ?_
  refine Rch.step (st' := T.setTop (mkF m 6 #[.val (.int vi0), .val (.int vi0), .unset, .unset, .unset, .unset, .unset] [(.int (vi0 &&& (31 : Int32)))])) (fun _ hr => XS.iand X0.here hx rfl (hb hby at_5) rfl hr) ?_
  refine Rch.step (st' := T.setTop (mkF m 7 #[.val (.int vi0), .val (.int vi0), .val (.int (vi0 &&& (31 : Int32))), .unset, .unset, .unset, .unset] [])) (fun _ hr => XS.istoreN X0.here hx rfl (hb hby at_6) rfl (l' := #[.val (.int vi0), .val (.int vi0), .val (.int (vi0 &&& (31 : Int32))), .unset, .unset, .unset, .unset]) rfl hr) ?_
  refine Rch.step (st' := T.setTop (mkF m 8 #[.val (.int vi0), .val (.int vi0), .val (.int (vi0 &&& (31 : Int32))), .unset, .unset, .unset, .unset] [(.int vi0)])) (fun _ hr => XS.iloadN X0.here hx rfl (hb hby at_7) rfl hr) ?_
  refine Rch.step (st' := T.setTop (mkF m 11 #[.val (.int vi0), .val (.int vi0), .val (.int (vi0 &&& (31 : Int32))), .unset, .unset, .unset, .unset] [(.int (255 : Int32)), (.int vi0)])) (fun _ hr => XS.sipush X0.here hx rfl (hb hby at_8) hr) ?_
  refine Rch.step (st' := T.setTop (mkF m 12 #[.val (.int vi0), .val (.int vi0), .val (.int (vi0 &&& (31 : Int32))), .unset, .unset, .unset, .unset] [(.int (vi0 &&& (255 : Int32)))])) (fun _ hr => XS.iand X0.here hx rfl (hb hby at_11) rfl hr) ?_
  refine Rch.step (st' := T.setTop (mkF m 13 #[.val (.int vi0), .val (.int vi0), .val (.int (vi0 &&& (31 : Int32))), .val (.int (vi0 &&& (255 : Int32))), .unset, .unset, .unset] [])) (fun _ hr => XS.istoreN X0.here hx rfl (hb hby at_12) rfl (l' := #[.val (.int vi0), .val (.int vi0), .val (.int (vi0 &&& (31 : Int32))), .val (.int (vi0 &&& (255 : Int32))), .unset, .unset, .unset]) rfl hr) ?_
  refine Rch.step (st' := T.setTop (mkF m 14 #[.val (.int vi0), .val (.int vi0), .val (.int (vi0 &&& (31 : Int32))), .val (.int (vi0 &&& (255 : Int32))), .unset, .unset, .unset] [(.int vi0)])) (fun _ hr => XS.iloadN X0.here hx rfl (hb hby at_13) rfl hr) ?_
  obtain ⟨_, _, ⟨T1, L1, k1, n1⟩, -, X1, ⟨Lc1, hQ1, l1, y1, z1⟩, st1⟩ := Jvm.LawKit.callS X0 hx (y := (⟨"com/example/vouchsafe/vouchsafe/DerReader", "isString", "(I)Z"⟩ : MethodName)) hown (mvT hZ (hw _ (List.mem_of_getElem? (i := 0) rfl))) (mvT hZ (hw _ (List.mem_of_getElem? (i := 1) rfl))) (mvT hZ (hw _ (List.mem_of_getElem? (i := 2) rfl))) (mvT hZ (hw _ (List.mem_of_getElem? (i := 3) rfl))) (by decide) (backOf (W := 0) (rm1 l Z a0 hw [] vi0 h0 n0 Z0) hZ (hw _ (List.mem_of_getElem? (i := 3) rfl)) (hw _ (List.mem_of_getElem? (i := 2) rfl)) (by decide) (by decide)) (g := (mkF m 14 #[.val (.int vi0), .val (.int vi0), .val (.int (vi0 &&& (31 : Int32))), .val (.int (vi0 &&& (255 : Int32))), .unset, .unset, .unset] [(.int vi0)])) rfl (by rw [hml]; rfl) (argsL := [(.int vi0)]) (rest := []) (lenOf pd1 rfl) rfl (by show 2 * 0 + _ ≤ _; exact Nat.le_of_eq rfl) (hb hby at_14) (fun _ _ => ⟨rfl, e0, (by decide : 0 + 0 ≤ _), (by decide : 0 + 0 ≤ _)⟩)
  dsimp only [Pt.U, Pt.locs, Pt.cells, Pt.slots] at X1 l1 y1 z1 st1 hQ1
  subst l1 y1 z1
  obtain ⟨rfl, N1q, e1⟩ := hQ1
  have N1 := Fr.app N0 N1q
  refine Rch.step (st' := T1.setTop (mkF m 17 #[.val (.int vi0), .val (.int vi0), .val (.int (vi0 &&& (31 : Int32))), .val (.int (vi0 &&& (255 : Int32))), .unset, .unset, .unset] [(.int (f1_0 vi0))])) (fun _ hr => st1 _ hr) ?_
  refine Rch.step (st' := T1.setTop (mkF m 18 #[.val (.int vi0), .val (.int vi0), .val (.int (vi0 &&& (31 : Int32))), .val (.int (vi0 &&& (255 : Int32))), .unset, .unset, .unset] [(.int vi0), (.int (f1_0 vi0))])) (fun _ hr => XS.iloadN X1.here hx rfl (hb hby at_17) rfl hr) ?_
  obtain ⟨_, _, ⟨T2, L2, k2, n2⟩, -, X2, ⟨Lc2, hQ2, l2, y2, z2⟩, st2⟩ := Jvm.LawKit.callS X1 hx (y := (⟨"com/example/vouchsafe/vouchsafe/DerReaderIsStringPinLaw", "reference", "(I)Z"⟩ : MethodName)) hown (mvT hZ (hw _ (List.mem_of_getElem? (i := 4) rfl))) (mvT hZ (hw _ (List.mem_of_getElem? (i := 5) rfl))) (mvT hZ (hw _ (List.mem_of_getElem? (i := 6) rfl))) (mvT hZ (hw _ (List.mem_of_getElem? (i := 7) rfl))) (by decide) (backOf (W := 1) (rm2 l Z a0 hw [] vi0 h0 n0 Z0) hZ (hw _ (List.mem_of_getElem? (i := 7) rfl)) (hw _ (List.mem_of_getElem? (i := 6) rfl)) (by decide) (by decide)) (g := (mkF m 18 #[.val (.int vi0), .val (.int vi0), .val (.int (vi0 &&& (31 : Int32))), .val (.int (vi0 &&& (255 : Int32))), .unset, .unset, .unset] [(.int vi0), (.int (f1_0 vi0))])) rfl (by rw [hml]; rfl) (argsL := [(.int vi0)]) (rest := [(.int (f1_0 vi0))]) (lenOf pd2 rfl) rfl (by show 2 * 0 + _ ≤ _; exact Nat.le_of_eq rfl) (hb hby at_18) (fun _ _ => ⟨rfl, e1, (by decide : 0 + 0 ≤ _), (by decide : 0 + 0 ≤ _)⟩)
  dsimp only [Pt.U, Pt.locs, Pt.cells, Pt.slots] at X2 l2 y2 z2 st2 hQ2
  subst l2 y2 z2
  obtain ⟨rfl, N2q, e2⟩ := hQ2
  have N2 := Fr.app N1 N2q
  refine Rch.step (st' := T2.setTop (mkF m 21 #[.val (.int vi0), .val (.int vi0), .val (.int (vi0 &&& (31 : Int32))), .val (.int (vi0 &&& (255 : Int32))), .unset, .unset, .unset] [(.int (f2_0 vi0)), (.int (f1_0 vi0))])) (fun _ hr => st2 _ hr) ?_
  by_cases hc3 : (f1_0 vi0) = (f2_0 vi0)
  · rw [if_pos hc3]
    refine Rch.step (st' := T2.setTop (mkF m 24 #[.val (.int vi0), .val (.int vi0), .val (.int (vi0 &&& (31 : Int32))), .val (.int (vi0 &&& (255 : Int32))), .unset, .unset, .unset] [])) (fun _ hr => XS.icmpNo X2.here hx rfl (hb hby at_21) rfl (teq hc3).2 hr) ?_
    refine Rch.step (st' := T2.setTop (mkF m 25 #[.val (.int vi0), .val (.int vi0), .val (.int (vi0 &&& (31 : Int32))), .val (.int (vi0 &&& (255 : Int32))), .unset, .unset, .unset] [(.int (1 : Int32))])) (fun _ hr => XS.iconst X2.here hx rfl (hb hby at_24) hr) ?_
    refine Rch.step (st' := T2.setTop (mkF m 29 #[.val (.int vi0), .val (.int vi0), .val (.int (vi0 &&& (31 : Int32))), .val (.int (vi0 &&& (255 : Int32))), .unset, .unset, .unset] [(.int (1 : Int32))])) (fun _ hr => XS.goto X2.here hx rfl (pc0 := 25) (pc' := 29) rfl (hb hby at_25) (by decide) (by decide) hr) ?_
    exact b0_29 ⟨X2, hx, hZ, hw, hby, hml, hown, hret, hlk, e2, Z0, N2⟩ vi0 vi0 (vi0 &&& (31 : Int32)) (vi0 &&& (255 : Int32)) (1 : Int32)
  · rw [if_neg hc3]
    refine Rch.step (st' := T2.setTop (mkF m 28 #[.val (.int vi0), .val (.int vi0), .val (.int (vi0 &&& (31 : Int32))), .val (.int (vi0 &&& (255 : Int32))), .unset, .unset, .unset] [])) (fun _ hr => XS.icmpYes X2.here hx rfl (pc0 := 21) (pc' := 28) rfl (hb hby at_21) rfl (feq hc3).2 (by decide) (by decide) hr) ?_
    refine Rch.step (st' := T2.setTop (mkF m 29 #[.val (.int vi0), .val (.int vi0), .val (.int (vi0 &&& (31 : Int32))), .val (.int (vi0 &&& (255 : Int32))), .unset, .unset, .unset] [(.int (0 : Int32))])) (fun _ hr => XS.iconst X2.here hx rfl (hb hby at_28) hr) ?_
    exact b0_29 ⟨X2, hx, hZ, hw, hby, hml, hown, hret, hlk, e2, Z0, N2⟩ vi0 vi0 (vi0 &&& (31 : Int32)) (vi0 &&& (255 : Int32)) (0 : Int32)
theorem ef0 (m : MethodId) (x0 : Int32) : entryFrame m #[(.int x0)] maxLocals = mkF m 0 #[.val (.int x0), .unset, .unset, .unset, .unset, .unset, .unset] [] := by first | (simp [entryFrame, mkF, argsToLocals, Value.category, maxLocals]; done) | rfl
set_option maxRecDepth 65536 in
set_option maxHeartbeats 40000000 in
theorem rm0 (l : Launch) (Z : State) (a0 : Array Value) (hw : ∀ d ∈ tables_1, d.before a0 Z = true) (ws : List Jvm.Cond) (vi0 : Int32) (h0 : Heap) (n0 : Nat) (Z0 : n0 ≤ h0.size) :
    MetFree l x (head1 (Jvm.Cond.code x code maxLocals ret :: ws) room_1) (fun a U => a = #[(.int vi0)] ∧ Z.Warmed39 U.vm ∧ U.heap = h0) (fun _ _ _ _ _ => True) (fun _ U o U' => ∃ v L, o = .returned v ∧ PI (f0_0 vi0) h0 n0 v U'.heap L ∧ FrameEnd U o U' L room_1.cells room_1.slots) := by
  refine MetFree.of_bodySF (plainFor_of_name pn0) hisR ?_
  intro p e s m args below meth c s₁ Bd hml0 hP hK
  obtain ⟨rfl, hZ, hh⟩ := hP
  have hown : s.vm.findClass "com/example/vouchsafe/vouchsafe/DerReaderIsStringPinLaw" = some m.cls := findClass_of_methodNamed Bd.named
  have e0 : s₁.heap = h0 := by rw [← hh, Bd.state]; rfl
  obtain ⟨s₂, v, L, h1, h2, h3, h4, h5⟩ := b0_0 (T := s₁) ⟨Stand.of_body Bd, Bd.exec, hZ, hw, Bd.bytes, hml0, hown, Bd.returns, BodyLoose.notSynchronized Bd, e0, Z0, Fr.nil n0⟩ vi0
  exact ⟨s₂, .returned v, castTop (ef0 m vi0) h1, h2, h3, v, L, rfl, h4, h5⟩
theorem own_fin : ∀ k : Fin 32, f1_0 (Int32.ofNat k.val) = f2_0 (Int32.ofNat k.val) := by decide +kernel
theorem own_eqv (c : Int32) : f1_0 c = f2_0 c := by
  by_cases h : 0 ≤ c.toInt ∧ c.toInt < 32
  · have q : c = Int32.ofNat c.toInt.toNat := by
      apply Int32.toInt_inj.mp
      rw [Int32.toInt_ofNat_of_lt (by omega)]
      omega
    rw [q]
    exact own_fin ⟨c.toInt.toNat, by omega⟩
  · have n : ∀ k : Int32, 0 ≤ k.toInt → k.toInt < 32 → ¬ c = k := fun k h1 h2 q => h (by rw [q]; exact ⟨h1, h2⟩)
    have e1 : f1_0 c = 0 := by
      unfold f1_0
      rw [if_neg (n 12 (by decide) (by decide)), if_neg (n 13 (by decide) (by decide)), if_neg (n 14 (by decide) (by decide)), if_neg (n 15 (by decide) (by decide)), if_neg (n 16 (by decide) (by decide)), if_neg (n 17 (by decide) (by decide)), if_neg (n 18 (by decide) (by decide)), if_neg (n 19 (by decide) (by decide)), if_neg (n 20 (by decide) (by decide)), if_neg (n 21 (by decide) (by decide)), if_neg (n 22 (by decide) (by decide)), if_neg (n 23 (by decide) (by decide)), if_neg (n 24 (by decide) (by decide)), if_neg (n 25 (by decide) (by decide)), if_neg (n 26 (by decide) (by decide)), if_neg (n 27 (by decide) (by decide)), if_neg (n 28 (by decide) (by decide)), if_neg (n 29 (by decide) (by decide)), if_neg (n 30 (by decide) (by decide))]
    have e2 : f2_0 c = 0 := by
      unfold f2_0
      by_cases h0 : c < 0
      · rw [if_pos h0]
      · rw [if_neg h0, if_neg]
        rw [Int32.lt_iff_toInt_lt] at h0 ⊢
        simp only [Int32.reduceToInt] at h0 ⊢
        omega
    rw [e1, e2]
theorem own_law (a : Int32) : f0_0 a = 1 := by
  simp [f0_0, f0_29, f0_47, f0_65, own_eqv]
set_option maxRecDepth 65536 in
set_option maxHeartbeats 40000000 in
theorem comes_1 {Post : Tables → Env → Array Value → State → Outcome → State → Prop} (hpost : ∀ tb e args s v u, (limb_1_1.after args s (.returned v) u = true ∧ limb_1_2.after args s (.returned v) u = true ∧ True) → FrameEnd s (.returned v) u (Jvm.fieldLocs frame_1_writes args s ++ Jvm.arrayLocs frame_1_arrays args s ++ Jvm.staticLocs frame_1_statics s) 0 0 → Post tb e args s (.returned v) u) :
    ArmFor flags0 classFile x code maxLocals ret World_1 tables_1 room_1 Calls_1 rest_1 Pre_1 Post := by
  intro l hfl _ _ p e ha hc hk s m args below hf hA hF happ hP
  obtain ⟨hcalls, hrest, hpre⟩ := hP
  obtain ⟨-, -, -, hnamed, -, -, -, hat⟩ := (Spec.applies_iff hf).mp happ
  obtain ⟨hg, hn⟩ := and_e (Cond.before_iff.mp (show (Jvm.Cond.and given_1 narrow_1).before args s = true from hpre))
  obtain ⟨g1, g2⟩ := and_e hg
  obtain ⟨w0, rfl⟩ : ∃ w0 : Value, args = #[w0] := by
    have hs : args.size = 1 := by simpa [Cond.value, given_1] using g1
    obtain ⟨L⟩ := args
    match L, hs with
    | [w0], _ => exact ⟨w0, rfl⟩
  have hw := fun d (hd : d ∈ tables_1) => atoms_spec (ws := Jvm.Cond.code x code maxLocals ret :: tables_1) hat d (List.mem_cons_of_mem _ hd)
  obtain ⟨i0, ei0⟩ := is_v g2
  obtain rfl : w0 = (.int i0) := Option.some.inj ei0
  obtain ⟨n, o, h1, h2, h3, _, L, rfl, ⟨rfl, N, -⟩, hq⟩ := rm0 l s _ hw tables_1 i0 s.heap s.heap.size (Nat.le_refl _) p e ha hc hk s m _ below hf ((Spec.applies_iff_loose hf).mp happ).1 ⟨rfl, State.Warmed39.refl s, rfl⟩ trivial
  have hlaw := own_law i0
  refine ⟨n, _, h1, h2, h3, hpost _ _ _ _ _ _ ⟨Cond.after_iff.mpr rfl, Cond.after_iff.mpr (eq_i res_at (Term.int_eval (1)) (by rw [hlaw])), trivial⟩ ⟨hq.1, hq.2.1, (hq.2.2.sift fun y hy => Or.inr (N y hy)).mono (by decide) (by decide)⟩⟩
theorem main_1_1 : Claimed_1_1 := comes_1 fun _ _ _ _ _ _ h hF => ⟨h.1, hF⟩
theorem main_1_2 : Claimed_1_2 := comes_1 fun _ _ _ _ _ _ h hF => ⟨h.2.1, hF⟩
end Jvm.Pilot.@@N@@
namespace Jvm.Pilot.@@N@@
open Jvm Jvm.ClassFile Sem Op Lib Jvm.Free Jvm.Stand Jvm.Pilot.@@N@@.Jvm.D
/-! MADE BY PROGRAM (witnessworld.py) out of the Statement's table words and the real class files: 9 classes; the members and pool entries that the words name. The judged class is class 1, her method 2. -/
namespace start1
open Jvm.ClassFile
def u (s : String) : CpInfo := .utf8 (stringToUtf16 s)
/-- a pool by its gaps: so many unusable entries, then the entry; so many at the end -/
def gap : Nat → List CpInfo → List CpInfo
  | 0, r => r
  | n + 1, r => .unusable :: gap n r
def poolList (es : List (Nat × CpInfo)) (last : Nat) : List CpInfo := es.foldr (fun e r => gap e.1 (e.2 :: r)) (gap last [])
def pool (es : List (Nat × CpInfo)) (last : Nat) : Array CpInfo := ⟨poolList es last⟩
def fileOf (pool : Array CpInfo) (this : Nat) (attrs : Array Attribute := #[]) (ms : Array MethodInfo := #[]) (fl : Nat := 33) (sup : Nat := 0) (ifs : Array Nat := #[]) (fds : Array FieldInfo := #[]) : ClassFile where
  minorVersion := 0
  majorVersion := 65
  constantPool := pool
  accessFlags := fl
  thisClass := this
  superClass := sup
  interfaces := ifs
  fields := fds
  methods := ms
  attributes := attrs
def plain (name : String) (sup : Option ClassId) : Class where
  name := name
  kind := .ordinary
  loader := none
  accessFlags := 33
  super := sup
  interfaces := #[]
  cf := none
  fields := #[]
  methods := #[]
  instanceTypes := #[]
  staticTypes := #[]
  resolved := #[]
  callSites := []
  init := .initialized
  statics := none
  mirror := none

def pool0 : Array CpInfo := pool [(5, u "<init>"), (0, u "()V"), (1, .class_ 10), (1, u "java/lang/Object")] 113

def k0m0 : Method := { name := "<init>", desc := "()V", sig := { parameters := [], returnType := none }, accessFlags := 1, code := none }
/-- java/lang/Object -/
def k0 : Class := { plain "java/lang/Object" none with
  accessFlags := 33
  interfaces := #[]
  cf := some (fileOf pool0 8 #[] #[{ accessFlags := 1, nameIndex := 5, descriptorIndex := 6, attributes := #[] }] 33 0 #[] #[])
  fields := #[]
  methods := #[k0m0]
  instanceTypes := #[]
  staticTypes := #[]
  resolved := Array.replicate 124 none
  statics := none }

def pool1 : Array CpInfo := pool [(2, .class_ 4), (1, u "java/lang/Object"), (0, u "<init>"), (0, u "()V"), (0, .class_ 8), (0, u "com/example/vouchsafe/vouchsafe/DerReaderIsStringPinLaw"), (0, .integer 1415319552), (0, .methodref 11 12), (0, .class_ 13), (0, .nameAndType 14 15), (0, u "com/example/vouchsafe/vouchsafe/DerReader"), (0, u "isString"), (0, u "(I)Z"), (0, .methodref 7 17), (0, .nameAndType 18 15), (0, u "reference"), (0, u "STRING_TAGS"), (0, u "I"), (4, u "law")] 2

def k1m0 : Method := { name := "<init>", desc := "()V", sig := { parameters := [], returnType := none }, accessFlags := 2, code := none }
def k1c1 : Code := { maxStack := 2, maxLocals := 1, code := method_2_code, exceptionTable := #[], attributes := #[] }
def k1m1 : Method := { name := "reference", desc := "(I)Z", sig := { parameters := [.int], returnType := some .boolean }, accessFlags := 10, code := some k1c1 }
def k1c2 : Code := { maxStack := 2, maxLocals := 7, code := code, exceptionTable := #[], attributes := #[] }
def k1m2 : Method := { name := "law", desc := "(I)Z", sig := { parameters := [.int], returnType := some .boolean }, accessFlags := 9, code := some k1c2 }
/-- com/example/vouchsafe/vouchsafe/DerReaderIsStringPinLaw -/
def k1 : Class := { plain "com/example/vouchsafe/vouchsafe/DerReaderIsStringPinLaw" (some 0) with
  accessFlags := 49
  interfaces := #[]
  cf := some (fileOf pool1 7 #[] #[{ accessFlags := 2, nameIndex := 5, descriptorIndex := 6, attributes := #[] }, { accessFlags := 10, nameIndex := 18, descriptorIndex := 15, attributes := #[] }, { accessFlags := 9, nameIndex := 25, descriptorIndex := 15, attributes := #[] }] 49 2 #[] #[{ accessFlags := 26, nameIndex := 19, descriptorIndex := 20, attributes := #[] }])
  fields := #[{ name := "STRING_TAGS", type := .int, accessFlags := 26, slot := 0, constantValue := 0 }]
  methods := #[k1m0, k1m1, k1m2]
  instanceTypes := #[]
  staticTypes := #[.int]
  resolved := Array.replicate 28 none
  statics := none }

def pool2 : Array CpInfo := pool [(2, .class_ 4), (1, u "java/lang/Object"), (3, .class_ 10), (1, u "com/example/vouchsafe/vouchsafe/DerReader"), (0, u "input"), (0, u "[B"), (2, u "from"), (0, u "I"), (2, u "to"), (2, u "position"), (2, u "end"), (2, u "document"), (0, u "Ljava/lang/String;"), (2, u "section"), (2, u "breaches"), (0, u "Ljava/util/function/Consumer;"), (2, u "secondLook"), (0, u "Z"), (0, .class_ 42), (0, u "com/example/vouchsafe/vouchsafe/DerReader$Known"), (5, u "known"), (0, u "Lcom/example/vouchsafe/vouchsafe/DerReader$Known;"), (8, .class_ 60), (1, u "com/example/vouchsafe/vouchsafe/DerReader$BitString"), (59, u "(I)Z"), (36, .class_ 159), (1, u "com/example/vouchsafe/vouchsafe/DerReader$Component"), (28, .class_ 190), (1, u "com/example/vouchsafe/vouchsafe/DerReader$Element"), (73, .class_ 265), (0, u "com/example/vouchsafe/vouchsafe/DerReader$Time"), (15, u "isString"), (5, .class_ 288), (0, u "com/example/vouchsafe/vouchsafe/DerReader$ValueWriter"), (51, .class_ 341), (0, u "com/example/vouchsafe/vouchsafe/DerReader$Header"), (123, .class_ 467), (1, u "com/example/vouchsafe/vouchsafe/DerReader$Order"), (120, u "EIGHTY"), (0, u "Ljava/math/BigInteger;"), (32, u "UTC_TIME_FORMS"), (0, u "Ljava/util/regex/Pattern;"), (2, u "GENERALIZED_TIME_FORMS"), (243, u "BOOLEAN"), (1, u "INTEGER"), (5, u "NULL"), (3, u "ENUMERATED"), (3, u "SEQUENCE"), (1, u "SET"), (35, u "BIT_STRING"), (1, u "OCTET_STRING"), (2, u "OBJECT_IDENTIFIER"), (1, u "OBJECT_DESCRIPTOR"), (2, u "UTF8_STRING"), (1, u "NUMERIC_STRING"), (1, u "PRINTABLE_STRING"), (1, u "TELETEX_STRING"), (1, u "VIDEOTEX_STRING"), (1, u "IA5_STRING"), (1, u "UTC_TIME"), (1, u "GENERALIZED_TIME"), (1, u "GRAPHIC_STRING"), (1, u "VISIBLE_STRING"), (1, u "GENERAL_STRING"), (1, u "UNIVERSAL_STRING"), (1, u "BMP_STRING"), (3, u "CONSTRUCTED"), (1, u "HIGH_TAG_NUMBER"), (1, u "NEGATIVE"), (4, u "INDEFINITE"), (66, .class_ 1039), (0, u "com/example/vouchsafe/vouchsafe/DerReader$Encoding")] 54

def k2c0 : Code := { maxStack := 1, maxLocals := 1, code := prog_15_method_53_code, exceptionTable := #[], attributes := #[] }
def k2m0 : Method := { name := "isString", desc := "(I)Z", sig := { parameters := [.int], returnType := some .boolean }, accessFlags := 8, code := some k2c0 }
/-- com/example/vouchsafe/vouchsafe/DerReader -/
def k2 : Class := { plain "com/example/vouchsafe/vouchsafe/DerReader" (some 0) with
  accessFlags := 48
  interfaces := #[]
  cf := some (fileOf pool2 8 #[.nestMembers #[1038, 41, 287, 465, 340, 157, 188, 264, 58]] #[{ accessFlags := 8, nameIndex := 281, descriptorIndex := 120, attributes := #[] }] 48 2 #[] #[{ accessFlags := 24, nameIndex := 870, descriptorIndex := 16, attributes := #[] }, { accessFlags := 24, nameIndex := 872, descriptorIndex := 16, attributes := #[] }, { accessFlags := 24, nameIndex := 924, descriptorIndex := 16, attributes := #[] }, { accessFlags := 24, nameIndex := 926, descriptorIndex := 16, attributes := #[] }, { accessFlags := 24, nameIndex := 878, descriptorIndex := 16, attributes := #[] }, { accessFlags := 24, nameIndex := 929, descriptorIndex := 16, attributes := #[] }, { accessFlags := 26, nameIndex := 931, descriptorIndex := 16, attributes := #[] }, { accessFlags := 24, nameIndex := 882, descriptorIndex := 16, attributes := #[] }, { accessFlags := 24, nameIndex := 934, descriptorIndex := 16, attributes := #[] }, { accessFlags := 24, nameIndex := 936, descriptorIndex := 16, attributes := #[] }, { accessFlags := 24, nameIndex := 938, descriptorIndex := 16, attributes := #[] }, { accessFlags := 24, nameIndex := 940, descriptorIndex := 16, attributes := #[] }, { accessFlags := 26, nameIndex := 942, descriptorIndex := 16, attributes := #[] }, { accessFlags := 24, nameIndex := 944, descriptorIndex := 16, attributes := #[] }, { accessFlags := 24, nameIndex := 946, descriptorIndex := 16, attributes := #[] }, { accessFlags := 24, nameIndex := 948, descriptorIndex := 16, attributes := #[] }, { accessFlags := 26, nameIndex := 950, descriptorIndex := 16, attributes := #[] }, { accessFlags := 24, nameIndex := 952, descriptorIndex := 16, attributes := #[] }, { accessFlags := 26, nameIndex := 954, descriptorIndex := 16, attributes := #[] }, { accessFlags := 24, nameIndex := 956, descriptorIndex := 16, attributes := #[] }, { accessFlags := 24, nameIndex := 958, descriptorIndex := 16, attributes := #[] }, { accessFlags := 24, nameIndex := 886, descriptorIndex := 16, attributes := #[] }, { accessFlags := 24, nameIndex := 888, descriptorIndex := 16, attributes := #[] }, { accessFlags := 26, nameIndex := 962, descriptorIndex := 16, attributes := #[] }, { accessFlags := 26, nameIndex := 964, descriptorIndex := 16, attributes := #[] }, { accessFlags := 26, nameIndex := 622, descriptorIndex := 623, attributes := #[] }, { accessFlags := 26, nameIndex := 626, descriptorIndex := 623, attributes := #[] }, { accessFlags := 26, nameIndex := 588, descriptorIndex := 589, attributes := #[] }, { accessFlags := 24, nameIndex := 966, descriptorIndex := 29, attributes := #[] }, { accessFlags := 18, nameIndex := 11, descriptorIndex := 12, attributes := #[] }, { accessFlags := 18, nameIndex := 15, descriptorIndex := 16, attributes := #[] }, { accessFlags := 18, nameIndex := 19, descriptorIndex := 16, attributes := #[] }, { accessFlags := 18, nameIndex := 25, descriptorIndex := 16, attributes := #[] }, { accessFlags := 18, nameIndex := 28, descriptorIndex := 29, attributes := #[] }, { accessFlags := 18, nameIndex := 32, descriptorIndex := 29, attributes := #[] }, { accessFlags := 18, nameIndex := 35, descriptorIndex := 36, attributes := #[] }, { accessFlags := 18, nameIndex := 39, descriptorIndex := 40, attributes := #[] }, { accessFlags := 18, nameIndex := 48, descriptorIndex := 49, attributes := #[] }, { accessFlags := 2, nameIndex := 22, descriptorIndex := 16, attributes := #[] }, { accessFlags := 26, nameIndex := 971, descriptorIndex := 16, attributes := #[] }])
  fields := #[{ name := "BOOLEAN", type := .int, accessFlags := 24, slot := 0, constantValue := 0 }, { name := "INTEGER", type := .int, accessFlags := 24, slot := 1, constantValue := 0 }, { name := "BIT_STRING", type := .int, accessFlags := 24, slot := 2, constantValue := 0 }, { name := "OCTET_STRING", type := .int, accessFlags := 24, slot := 3, constantValue := 0 }, { name := "NULL", type := .int, accessFlags := 24, slot := 4, constantValue := 0 }, { name := "OBJECT_IDENTIFIER", type := .int, accessFlags := 24, slot := 5, constantValue := 0 }, { name := "OBJECT_DESCRIPTOR", type := .int, accessFlags := 26, slot := 6, constantValue := 0 }, { name := "ENUMERATED", type := .int, accessFlags := 24, slot := 7, constantValue := 0 }, { name := "UTF8_STRING", type := .int, accessFlags := 24, slot := 8, constantValue := 0 }, { name := "NUMERIC_STRING", type := .int, accessFlags := 24, slot := 9, constantValue := 0 }, { name := "PRINTABLE_STRING", type := .int, accessFlags := 24, slot := 10, constantValue := 0 }, { name := "TELETEX_STRING", type := .int, accessFlags := 24, slot := 11, constantValue := 0 }, { name := "VIDEOTEX_STRING", type := .int, accessFlags := 26, slot := 12, constantValue := 0 }, { name := "IA5_STRING", type := .int, accessFlags := 24, slot := 13, constantValue := 0 }, { name := "UTC_TIME", type := .int, accessFlags := 24, slot := 14, constantValue := 0 }, { name := "GENERALIZED_TIME", type := .int, accessFlags := 24, slot := 15, constantValue := 0 }, { name := "GRAPHIC_STRING", type := .int, accessFlags := 26, slot := 16, constantValue := 0 }, { name := "VISIBLE_STRING", type := .int, accessFlags := 24, slot := 17, constantValue := 0 }, { name := "GENERAL_STRING", type := .int, accessFlags := 26, slot := 18, constantValue := 0 }, { name := "UNIVERSAL_STRING", type := .int, accessFlags := 24, slot := 19, constantValue := 0 }, { name := "BMP_STRING", type := .int, accessFlags := 24, slot := 20, constantValue := 0 }, { name := "SEQUENCE", type := .int, accessFlags := 24, slot := 21, constantValue := 0 }, { name := "SET", type := .int, accessFlags := 24, slot := 22, constantValue := 0 }, { name := "CONSTRUCTED", type := .int, accessFlags := 26, slot := 23, constantValue := 0 }, { name := "HIGH_TAG_NUMBER", type := .int, accessFlags := 26, slot := 24, constantValue := 0 }, { name := "UTC_TIME_FORMS", type := (.object "java/util/regex/Pattern"), accessFlags := 26, slot := 25, constantValue := 0 }, { name := "GENERALIZED_TIME_FORMS", type := (.object "java/util/regex/Pattern"), accessFlags := 26, slot := 26, constantValue := 0 }, { name := "EIGHTY", type := (.object "java/math/BigInteger"), accessFlags := 26, slot := 27, constantValue := 0 }, { name := "NEGATIVE", type := (.object "java/lang/String"), accessFlags := 24, slot := 28, constantValue := 0 }, { name := "input", type := (.array .byte), accessFlags := 18, slot := 0, constantValue := 0 }, { name := "from", type := .int, accessFlags := 18, slot := 1, constantValue := 0 }, { name := "to", type := .int, accessFlags := 18, slot := 2, constantValue := 0 }, { name := "end", type := .int, accessFlags := 18, slot := 3, constantValue := 0 }, { name := "document", type := (.object "java/lang/String"), accessFlags := 18, slot := 4, constantValue := 0 }, { name := "section", type := (.object "java/lang/String"), accessFlags := 18, slot := 5, constantValue := 0 }, { name := "breaches", type := (.object "java/util/function/Consumer"), accessFlags := 18, slot := 6, constantValue := 0 }, { name := "secondLook", type := .boolean, accessFlags := 18, slot := 7, constantValue := 0 }, { name := "known", type := (.object "com/example/vouchsafe/vouchsafe/DerReader$Known"), accessFlags := 18, slot := 8, constantValue := 0 }, { name := "position", type := .int, accessFlags := 2, slot := 9, constantValue := 0 }, { name := "INDEFINITE", type := .int, accessFlags := 26, slot := 29, constantValue := 0 }]
  methods := #[k2m0]
  instanceTypes := #[(.array .byte), .int, .int, .int, (.object "java/lang/String"), (.object "java/lang/String"), (.object "java/util/function/Consumer"), .boolean, (.object "com/example/vouchsafe/vouchsafe/DerReader$Known"), .int]
  staticTypes := #[.int, .int, .int, .int, .int, .int, .int, .int, .int, .int, .int, .int, .int, .int, .int, .int, .int, .int, .int, .int, .int, .int, .int, .int, .int, (.object "java/util/regex/Pattern"), (.object "java/util/regex/Pattern"), (.object "java/math/BigInteger"), (.object "java/lang/String"), .int]
  resolved := Array.replicate 1094 none
  statics := none }

def pool3 : Array CpInfo := pool [(1, u "java/lang/Cloneable"), (0, .class_ 1), (0, u "java/lang/Object"), (0, .class_ 3)] 3

/-- java/lang/Cloneable -/
def k3 : Class := { plain "java/lang/Cloneable" (some 0) with
  accessFlags := 1537
  interfaces := #[]
  cf := some (fileOf pool3 2 #[] #[] 1537 4 #[] #[])
  fields := #[]
  methods := #[]
  instanceTypes := #[]
  staticTypes := #[]
  resolved := Array.replicate 8 none
  statics := none }

def pool4 : Array CpInfo := pool [(1, u "java/io/Serializable"), (0, .class_ 1), (0, u "java/lang/Object"), (0, .class_ 3)] 3

/-- java/io/Serializable -/
def k4 : Class := { plain "java/io/Serializable" (some 0) with
  accessFlags := 1537
  interfaces := #[]
  cf := some (fileOf pool4 2 #[] #[] 1537 4 #[] #[])
  fields := #[]
  methods := #[]
  instanceTypes := #[]
  staticTypes := #[]
  resolved := Array.replicate 8 none
  statics := none }

/-- the primitive byte -/
def k5 : Class := { plain "byte" none with kind := .primitive 'B', accessFlags := 0x411 }
/-- [B -/
def k6 : Class := { plain "[B" (some 0) with kind := .array 5 .byte, interfaces := #[3, 4], accessFlags := 1041 }

/-- the primitive int -/
def k7 : Class := { plain "int" none with kind := .primitive 'I', accessFlags := 0x411 }
/-- [I -/
def k8 : Class := { plain "[I" (some 0) with kind := .array 7 .int, interfaces := #[3, 4], accessFlags := 1041 }

def heap : Heap := #[]
def classes : Array Class := #[k0, k1, k2, k3, k4, k5, k6, k7, k8]
def interned : List (Array UInt16 × Addr) := []
def slotsUsed : Nat := 0
def theMethod : MethodId := ⟨1, 2⟩
def args0 : Array Value := #[.int 5]
def aboutOver (below : List Frame) : State where
  vm := { classes := classes, interned := interned.toArray }
  heap := heap
  slotsUsed := slotsUsed
  threads := #[{ frames := .invoking theMethod args0 :: below }]
def below0 : List Frame := [.native { method := ⟨0, 0⟩, args := #[] }]
def about1 : State := aboutOver below0
def p0 : Program := .bare "" "" ""
def e0 : Env := launch0.env 0 0 0
theorem w_frames : about1.frames = Frame.invoking theMethod args0 :: below0 := rfl
set_option maxRecDepth 65536 in
theorem w_args : argsFit about1.vm theMethod args0 = true := by decide +kernel
set_option maxRecDepth 65536 in
theorem w_heap : heapFits about1 = true := by decide +kernel
set_option maxRecDepth 65536 in
theorem w_runnable : about1.curStatus? = some .runnable := by decide +kernel
set_option maxRecDepth 65536 in
theorem w_alone : about1.alone = true := by decide +kernel
set_option maxRecDepth 65536 in
theorem w_named : about1.methodNamed? x = some theMethod := by decide +kernel
set_option maxRecDepth 65536 in
theorem w_hears : about1.hears theMethod below0 = true := by decide +kernel
set_option maxRecDepth 65536 in
theorem w_ripe : about1.ripe theMethod args0 below0 = true := by decide +kernel
theorem w_running : about1.status = .running := rfl
set_option maxRecDepth 65536 in
theorem w_room : about1.hasRoom e0.platform room_1 = true :=
  launch0.hasRoom_least _ room_1 (by decide +kernel) (by decide +kernel) (by decide +kernel) (by decide +kernel) (by decide +kernel) (by decide +kernel)
theorem allAtoms_all (ts : List Jvm.Cond) (a : Array Jvm.Value) (st : Jvm.State) : (allAtoms ts).before a st = ts.all (fun c => c.before a st) := by
  induction ts with
  | nil => rfl
  | cons c t ih =>
    show (Jvm.Cond.and c (allAtoms t)).before a st = _
    rw [Jvm.Cond.before_and, ih, List.all_cons]
def words1 : List Jvm.Cond := Jvm.Cond.code x code maxLocals ret :: tables_1
/-- a 'code' word, met by the world's own term for the bytes: nothing is compared byte by byte -/
theorem code_word {y : MethodName} {bytes : ByteArray} {mx : Nat} {rt : Option FieldType} {a : Array Value} {s : State} {m : MethodId} {meth : Method} {c : Code} (h1 : s.methodNamed? y = some m) (h2 : s.vm.method? m = some meth) (h3 : meth.code = some c) (h4 : c.code = bytes)
    (h5 : (c.maxLocals == mx && c.exceptionTable.isEmpty && decide (c.maxStack ≤ mostOperands) && decide (meth.sig.returnType = rt) && !meth.locks && decide (parseMethodDescriptor y.desc = some meth.sig)) = true) : (Jvm.Cond.code y bytes mx rt).before a s = true := by
  simp only [Bool.and_eq_true, beq_iff_eq, Bool.not_eq_true', decide_eq_true_eq] at h5
  obtain ⟨⟨⟨⟨⟨g1, g2⟩, g3⟩, g4⟩, g5⟩, g6⟩ := h5
  simp [Cond.before, Cond.holds, Cond.value, h1, h2, h3, h4, g1, g2, g3, g4, g5, g6]
def isCode : Jvm.Cond → Bool
  | .code _ _ _ _ => true
  | _ => false
theorem all_split {L : List Jvm.Cond} {P : Jvm.Cond → Bool} (h1 : L.all (fun c => isCode c || P c) = true) (h2 : ∀ c ∈ L.filter isCode, P c = true) : L.all P = true := by
  refine List.all_eq_true.mpr fun c hc => ?_
  have h := List.all_eq_true.mp h1 c hc
  rcases Bool.eq_false_or_eq_true (isCode c) with hi | hi
  · exact h2 c (List.mem_filter.mpr ⟨hc, hi⟩)
  · simpa [hi] using h
set_option maxRecDepth 65536 in
theorem w_c0 : (Jvm.Cond.code x code maxLocals ret).before args0 about1 = true := code_word (m := ⟨1, 2⟩) (meth := k1m2) (c := k1c2) (by decide +kernel) rfl rfl rfl (by decide +kernel)
set_option maxRecDepth 65536 in
theorem w_c1 : (Jvm.Cond.code ({ cls := "com/example/vouchsafe/vouchsafe/DerReader", name := "isString", desc := "(I)Z" } : Jvm.MethodName) prog_15_method_53_code (1 : Nat) (Option.some Jvm.ClassFile.FieldType.boolean)).before args0 about1 = true := code_word (m := ⟨2, 0⟩) (meth := k2m0) (c := k2c0) (by decide +kernel) rfl rfl rfl (by decide +kernel)
set_option maxRecDepth 65536 in
theorem w_c2 : (Jvm.Cond.code ({ cls := "com/example/vouchsafe/vouchsafe/DerReaderIsStringPinLaw", name := "reference", desc := "(I)Z" } : Jvm.MethodName) method_2_code (1 : Nat) (Option.some Jvm.ClassFile.FieldType.boolean)).before args0 about1 = true := code_word (m := ⟨1, 1⟩) (meth := k1m1) (c := k1c1) (by decide +kernel) rfl rfl rfl (by decide +kernel)
def codes1 : List Jvm.Cond := [Jvm.Cond.code x code maxLocals ret, Jvm.Cond.code ({ cls := "com/example/vouchsafe/vouchsafe/DerReader", name := "isString", desc := "(I)Z" } : Jvm.MethodName) prog_15_method_53_code (1 : Nat) (Option.some Jvm.ClassFile.FieldType.boolean), Jvm.Cond.code ({ cls := "com/example/vouchsafe/vouchsafe/DerReaderIsStringPinLaw", name := "reference", desc := "(I)Z" } : Jvm.MethodName) method_2_code (1 : Nat) (Option.some Jvm.ClassFile.FieldType.boolean)]
set_option maxRecDepth 65536 in
theorem codes_eq : words1.filter isCode = codes1 := rfl
theorem w_codes : ∀ c ∈ words1.filter isCode, c.before args0 about1 = true := by
  rw [codes_eq]
  intro c hc
  simp only [codes1, List.mem_cons, List.not_mem_nil, or_false] at hc
  rcases hc with rfl | rfl | rfl
  · exact w_c0
  · exact w_c1
  · exact w_c2
set_option maxRecDepth 65536 in
theorem w_t1 : words1.all (fun c => isCode c || c.before args0 about1) = true := by decide +kernel
theorem w_tables : (allAtoms (Jvm.Cond.code x code maxLocals ret :: tables_1)).before args0 about1 = true := by
  rw [allAtoms_all]
  show words1.all (fun c => c.before args0 about1) = true
  refine all_split ?_ w_codes
  rw [w_t1]
set_option maxRecDepth 65536 in
theorem w_case : (Jvm.Cond.and given_1 narrow_1).before args0 about1 = true := by decide +kernel
theorem w_applies : (headSpec (Jvm.Cond.code x code maxLocals ret :: tables_1) room_1).applies x e0.platform about1 = true :=
  (Spec.applies_iff w_frames).mpr ⟨w_running, w_runnable, w_alone, w_named, w_hears, w_ripe, w_room, w_tables⟩
theorem atStart : AtStart classFile x code maxLocals ret World_1 tables_1 room_1 Calls_1 rest_1 Pre_1 launch0 p0 e0 about1 theMethod args0 below0 :=
  ⟨lists_1, trivial, launch0.admits_env _ _ _, launch0.least_env, fairChoices_fair.cas, fairChoices_fair.clock, w_frames, w_args, w_heap, w_applies, trivial, trivial, w_case⟩
end start1
theorem witness_1 : WitnessClaimed_1 := ⟨start1.p0, start1.e0, start1.about1, start1.theMethod, start1.args0, start1.below0, start1.atStart⟩
end Jvm.Pilot.@@N@@
