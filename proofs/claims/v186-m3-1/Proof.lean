import JvmDerived
import JvmDerived.Pilot.@@N@@Statement
import JvmDerived.Pilot.@@N@@Code
set_option linter.unusedVariables false
set_option linter.unusedSimpArgs false
namespace Jvm.RoadKit
open Sem ClassFile Op Lib Jvm.Stand Jvm.Free Jvm.LawKit
section New
variable {p : Program} {l : Launch} {e : Env} {R : Room} {s : State} {m : MethodId} {args : Array Value} {below : List Frame} {meth : Method} {c : Code} {T : State} {locs : List Loc} {cells slots : Nat}
theorem retI (X : Stand p l e R s m args below meth c T locs cells slots) (hx : p.tables.exec = Jvm.exec) {pc : Nat} {Ls : Array Slot} {z : Int32} {rest : List Value} (hret : meth.sig.returnType = some .int) (hd : decode c.code pc = .ok (.ireturn, 1)) {fs : List Frame}
    (hl : ∀ (f : JFrame) (acts : List Action), f.method = m → f.locked = none → f.entered = [] → (doReturn e (T.setTop f) acts (some (.int z))).1 = T.setFrames fs) : Steps p.tables e below (T.setTop (mkF m pc Ls (.int z :: rest))) (T.setFrames fs) := by
  have hm' : T.vm.method? m = some meth := X.method'
  have hn : narrow .int (.int z) = .int z := rfl
  show Steps p.tables e below (T.setTop { method := m, pc := pc, locals := Ls, stack := _ :: rest, locked := none }) _
  jvm_step X.here [X.here.top, hx, hd, hm', hret, hn]
  first | (intro acts; rw [hl _ acts rfl rfl rfl]) | rw [hl _ _ rfl rfl rfl]
  exact Steps.refl _
end New
end Jvm.RoadKit
namespace Jvm.Pilot.@@N@@
open Jvm Jvm.ClassFile Sem Op Lib Jvm.Free Jvm.Stand Jvm.LawKit Jvm.RoadKit Bundle Jvm.Pilot.@@N@@.Jvm.D

def Rch (p : Program) (e : Env) (below : List Frame) (s : State) (C S : Nat) (st : State) (K : Option Value → Heap → List Loc → Prop) : Prop :=
  ∃ s₂ v L, Steps p.tables e below st s₂ ∧ s₂.status = .running ∧ Ended s₂ below (.returned v) ∧ K v s₂.heap L ∧ FrameEnd s (.returned v) s₂ L C S
section Own
variable {p : Program} {l : Launch} {e : Env} {R : Room} {s : State} {m : MethodId} {args : Array Value} {below : List Frame} {meth : Method} {c : Code} {T : State} {locs : List Loc} {cells slots C S : Nat} {K : Option Value → Heap → List Loc → Prop}
theorem Rch.step {st st' : State} (h : ∀ t, Steps p.tables e below st' t → Steps p.tables e below st t) (k : Rch p e below s C S st' K) : Rch p e below s C S st K := by
  obtain ⟨s₂, v, L, h1, h2⟩ := k
  exact ⟨s₂, v, L, h _ h1, h2⟩
theorem Rch.imp {st : State} {K' : Option Value → Heap → List Loc → Prop} (h : ∀ v hh L, K v hh L → K' v hh L) (k : Rch p e below s C S st K) : Rch p e below s C S st K' := by
  obtain ⟨s₂, v, L, h1, h2, h3, h4, h5⟩ := k
  exact ⟨s₂, v, L, h1, h2, h3, h _ _ _ h4, h5⟩
theorem Rch.retI (X : Stand p l e R s m args below meth c T locs cells slots) (hx : p.tables.exec = Jvm.exec) (hret : meth.sig.returnType = some .int) (hlk : meth.locks = false) {pc : Nat} {Ls : Array Slot} {z : Int32} {rest : List Value} (hd : decode c.code pc = .ok (.ireturn, 1)) (hC : cells ≤ C) (hS : slots ≤ S) (hK : K (some (.int z)) T.heap locs) :
    Rch p e below s C S (T.setTop (mkF m pc Ls (.int z :: rest))) K := by
  obtain ⟨fs, hr, hrun, hended, hW, hsame⟩ := X.leave (v := some (.int z)) (fun h => by rw [hret] at h; cases h) hlk
  exact ⟨_, _, _, Jvm.RoadKit.retI X hx hret hd hr, hrun, hended, hK, ⟨_, rfl⟩, hW, hsame.mono hC hS⟩
theorem Rch.retN (X : Stand p l e R s m args below meth c T locs cells slots) (hx : p.tables.exec = Jvm.exec) {t : FieldType} (hret : meth.sig.returnType = some t) (hlk : meth.locks = false) (ht : t = .boolean ∨ t = .byte ∨ t = .char ∨ t = .short) {pc : Nat} {Ls : Array Slot} {z : Int32} {rest : List Value} (hd : decode c.code pc = .ok (.ireturn, 1)) (hC : cells ≤ C) (hS : slots ≤ S) (hK : K (some (.int (nar t z))) T.heap locs) :
    Rch p e below s C S (T.setTop (mkF m pc Ls (.int z :: rest))) K := by
  obtain ⟨fs, hr, hrun, hended, hW, hsame⟩ := X.leave (v := some (.int (nar t z))) (fun h => by rw [hret] at h; cases h) hlk
  exact ⟨_, _, _, Jvm.RoadKit.retN X hx hret ht hd hr, hrun, hended, hK, ⟨_, rfl⟩, hW, hsame.mono hC hS⟩
theorem Rch.retJ (X : Stand p l e R s m args below meth c T locs cells slots) (hx : p.tables.exec = Jvm.exec) (hret : meth.sig.returnType = some .long) (hlk : meth.locks = false) {pc : Nat} {Ls : Array Slot} {z : Int64} (hd : decode c.code pc = .ok (.lreturn, 1)) (hC : cells ≤ C) (hS : slots ≤ S) (hK : K (some (.long z)) T.heap locs) :
    Rch p e below s C S (T.setTop (mkF m pc Ls [.long z])) K := by
  obtain ⟨fs, hr, hrun, hended, hW, hsame⟩ := X.leave (v := some (.long z)) (fun h => by rw [hret] at h; cases h) hlk
  exact ⟨_, _, _, X.lreturnOut hx hret hd hr, hrun, hended, hK, ⟨_, rfl⟩, hW, hsame.mono hC hS⟩
theorem Rch.retV (X : Stand p l e R s m args below meth c T locs cells slots) (hx : p.tables.exec = Jvm.exec) (hret : meth.sig.returnType = none) (hlk : meth.locks = false) {pc : Nat} {Ls : Array Slot} (hd : decode c.code pc = .ok (.return_, 1)) (hC : cells ≤ C) (hS : slots ≤ S) (hK : K none T.heap locs) :
    Rch p e below s C S (T.setTop (mkF m pc Ls [])) K := by
  obtain ⟨fs, hr, hrun, hended, hW, hsame⟩ := X.leave (v := none) (fun _ => rfl) hlk
  exact ⟨_, _, _, X.returnOut hx hret hd hr, hrun, hended, hK, ⟨_, rfl⟩, hW, hsame.mono hC hS⟩
end Own
def PI (z : Int32) (h0 : Heap) (n0 : Nat) : Option Value → Heap → List Loc → Prop := fun v h L => v = some (.int z) ∧ Fr n0 L ∧ h = h0
def PJ (z : Int64) (h0 : Heap) (n0 : Nat) : Option Value → Heap → List Loc → Prop := fun v h L => v = some (.long z) ∧ Fr n0 L ∧ h = h0
def Cx (R : Room) (bytes : ByteArray) (ml : Nat) (own : String) (rt : Option FieldType) (p : Program) (l : Launch) (e : Env) (s : State) (m : MethodId) (args : Array Value) (below : List Frame) (meth : Method) (c : Code) (T : State) (locs : List Loc) (cells slots : Nat) (Z : State) (a0 : Array Value) (h0 : Heap) (n0 : Nat) : Prop :=
  Stand p l e R s m args below meth c T locs cells slots ∧ p.tables.exec = Jvm.exec ∧ Z.Warmed39 s.vm ∧ (∀ d ∈ tables_1, d.before a0 Z = true) ∧ c.code = bytes ∧ c.maxLocals = ml ∧ s.vm.findClass own = some m.cls ∧ meth.sig.returnType = rt ∧ meth.locks = false ∧ T.heap = h0 ∧ n0 ≤ h0.size ∧ Fr n0 locs
/-! arrays by lists: the whole content, as plain values -/
def Ars {α : Type} (emb : α → Value) (dv : α) (ty : FieldType) (Z : State) (h : Heap) (a : Addr) (n : Int32) (ws : List α) : Prop := ws.length = n.toNatClampNeg ∧ ∃ k, Arv Z h a k ty n (ws.map emb) (emb dv)
abbrev ArJ (Z : State) (h : Heap) (a : Addr) (n : Int32) (ws : List Int64) : Prop := Ars Value.long (0 : Int64) .long Z h a n ws
abbrev ArI (Z : State) (h : Heap) (a : Addr) (n : Int32) (ws : List Int32) : Prop := Ars Value.int (0 : Int32) .int Z h a n ws
abbrev ArB (Z : State) (h : Heap) (a : Addr) (n : Int32) (ws : List Int32) : Prop := Ars Value.int (0 : Int32) .byte Z h a n ws
theorem own_getD {α : Type} (emb : α → Value) (dv : α) : ∀ (ws : List α) (i : Nat), (ws.map emb).getD i (emb dv) = emb (ws.getD i dv)
  | [], i => by simp
  | w :: ws, 0 => by simp
  | w :: ws, i + 1 => by simpa using own_getD emb dv ws i
theorem Ars.ext {α : Type} {emb : α → Value} {dv : α} {ty : FieldType} {Z : State} {h h' : Heap} {a : Addr} {n : Int32} {ws : List α} (V : Ars emb dv ty Z h a n ws) (E : Ext h h') : Ars emb dv ty Z h' a n ws := by
  obtain ⟨hl, k, A⟩ := V
  exact ⟨hl, k, A.ext E⟩
theorem Ars.other {α : Type} {emb : α → Value} {dv : α} {ty : FieldType} {Z : State} {h h' : Heap} {a b : Addr} {n : Int32} {ws : List α} {sl : Nat} {v : Value} (V : Ars emb dv ty Z h a n ws) (W : Wr h h' b sl v) (q : a ≠ b) : Ars emb dv ty Z h' a n ws := by
  obtain ⟨hl, k, A⟩ := V
  exact ⟨hl, k, A.other W q⟩
theorem Ars.keep {α : Type} {emb : α → Value} {dv : α} {ty : FieldType} {Z : State} {h h' : Heap} {a : Addr} {n : Int32} {ws : List α} {us : List Addr} (V : Ars emb dv ty Z h a n ws) (K : Keep h h' us) (q : a ∉ us) : Ars emb dv ty Z h' a n ws := by
  obtain ⟨hl, k, A⟩ := V
  exact ⟨hl, k, A.keep K q⟩
theorem Ars.lt {α : Type} {emb : α → Value} {dv : α} {ty : FieldType} {Z : State} {h : Heap} {a : Addr} {n : Int32} {ws : List α} (V : Ars emb dv ty Z h a n ws) : a < h.size := by
  obtain ⟨hl, k, A⟩ := V
  exact A.lt
theorem Ars.fresh {α : Type} {emb : α → Value} {dv : α} {ty : FieldType} {Z : State} {h : Heap} {a : Addr} {n : Int32} {k : ClassId} (hd : defaultValue ty = emb dv) (A : Arr Z h a (newA k ty n) ty) (q : ¬ n < 0) : Ars emb dv ty Z h a n (List.replicate n.toNatClampNeg dv) := by
  refine ⟨by simp, k, ?_⟩
  have F := Arv.new A q
  rw [hd] at F
  have G := F.pad (pad_rep [] (emb dv) n.toNatClampNeg)
  simpa using G
section OwnArr
variable {p : Program} {l : Launch} {e : Env} {R : Room} {s : State} {m : MethodId} {args : Array Value} {below : List Frame} {meth : Method} {c : Code} {T : State} {locs : List Loc} {cells slots : Nat} {Z : State} {h : Heap}
theorem own_lt {n j : Int32} {k : Nat} (hl : k = n.toNatClampNeg) (h0 : ¬ j < 0) (h1 : j < n) : j.toNatClampNeg < k := by
  rw [Int32.lt_iff_toInt_lt] at h0 h1
  simp only [Int32.reduceToInt] at h0
  rw [hl]
  show j.toInt.toNat < n.toInt.toNat
  omega
theorem lenA {α : Type} {emb : α → Value} {dv : α} {ty : FieldType} {a : Addr} {n : Int32} {ws : List α} (X : Stand p l e R s m args below meth c T locs cells slots) (hx : p.tables.exec = Jvm.exec) (hZ : Z.Warmed39 s.vm) (eT : T.heap = h) (V : Ars emb dv ty Z h a n ws)
    {g : JFrame} (hg : g.method = m) {rest : List Value} (hs : g.stack = .ref a :: rest) (hd : decode c.code g.pc = .ok (.arraylength, 1)) :
    ∀ target, Steps p.tables e below (T.setTop { g with pc := g.pc + 1, stack := .int n :: rest }) target → Steps p.tables e below (T.setTop g) target := by
  obtain ⟨hl, k, cl, Ar, -, S, q3, H, -⟩ := V
  intro target hr
  refine X.arraylength hx (by rw [eT]; exact Ar.1) (State.isArrayOf_alike hZ.alike Ar.2.1) hg hs hd target ?_
  rw [len_of S q3]
  exact hr
theorem ldJ {a : Addr} {n : Int32} {ws : List Int64} (X : Stand p l e R s m args below meth c T locs cells slots) (hx : p.tables.exec = Jvm.exec) (hZ : Z.Warmed39 s.vm) (eT : T.heap = h) (V : ArJ Z h a n ws) {j : Int32} (h0 : ¬ j < 0) (h1 : j < n)
    {g : JFrame} (hg : g.method = m) {rest : List Value} (hs : g.stack = .int j :: .ref a :: rest) (hd : decode c.code g.pc = .ok (.laload, 1)) :
    ∀ target, Steps p.tables e below (T.setTop { g with pc := g.pc + 1, stack := .long (ws.getD j.toNatClampNeg 0) :: rest }) target → Steps p.tables e below (T.setTop g) target := by
  obtain ⟨hl, k, cl, Ar, -, S, q3, H, -⟩ := V
  have hin := inb_of S ⟨h0, h1⟩
  exact X.laload hx (by rw [eT]; exact Ar.1) (State.isArrayOf_alike hZ.alike Ar.2.1) Ar.2.2 hin (H.at hin (own_getD Value.long 0 ws _)) hg hs hd
theorem ldI {a : Addr} {n : Int32} {ws : List Int32} (X : Stand p l e R s m args below meth c T locs cells slots) (hx : p.tables.exec = Jvm.exec) (hZ : Z.Warmed39 s.vm) (eT : T.heap = h) (V : ArI Z h a n ws) {j : Int32} (h0 : ¬ j < 0) (h1 : j < n)
    {g : JFrame} (hg : g.method = m) {rest : List Value} (hs : g.stack = .int j :: .ref a :: rest) (hd : decode c.code g.pc = .ok (.iaload, 1)) :
    ∀ target, Steps p.tables e below (T.setTop { g with pc := g.pc + 1, stack := .int (ws.getD j.toNatClampNeg 0) :: rest }) target → Steps p.tables e below (T.setTop g) target := by
  obtain ⟨hl, k, cl, Ar, -, S, q3, H, -⟩ := V
  have hin := inb_of S ⟨h0, h1⟩
  exact X.iaload hx (by rw [eT]; exact Ar.1) (State.isArrayOf_alike hZ.alike Ar.2.1) Ar.2.2 hin (H.at hin (own_getD Value.int 0 ws _)) hg hs hd
theorem ldB {a : Addr} {n : Int32} {ws : List Int32} (X : Stand p l e R s m args below meth c T locs cells slots) (hx : p.tables.exec = Jvm.exec) (hZ : Z.Warmed39 s.vm) (eT : T.heap = h) (V : ArB Z h a n ws) {j : Int32} (h0 : ¬ j < 0) (h1 : j < n)
    {g : JFrame} (hg : g.method = m) {rest : List Value} (hs : g.stack = .int j :: .ref a :: rest) (hd : decode c.code g.pc = .ok (.baload, 1)) :
    ∀ target, Steps p.tables e below (T.setTop { g with pc := g.pc + 1, stack := .int (ws.getD j.toNatClampNeg 0) :: rest }) target → Steps p.tables e below (T.setTop g) target := by
  obtain ⟨hl, k, cl, Ar, -, S, q3, H, -⟩ := V
  have hin := inb_of S ⟨h0, h1⟩
  exact X.baloadBytes hx (by rw [eT]; exact Ar.1) (State.isArrayOf_alike hZ.alike Ar.2.1) Ar.2.2 hin (H.at hin (own_getD Value.int 0 ws _)) hg hs hd
theorem putJ {a : Addr} {n : Int32} {ws : List Int64} (X : Stand p l e R s m args below meth c T locs cells slots) (hx : p.tables.exec = Jvm.exec) (hZ : Z.Warmed39 s.vm) (eT : T.heap = h) (V : ArJ Z h a n ws) {j : Int32} {x : Int64} (h0 : ¬ j < 0) (h1 : j < n)
    {g : JFrame} (hg : g.method = m) {rest : List Value} (hs : g.stack = .long x :: .int j :: .ref a :: rest) (hd : decode c.code g.pc = .ok (.lastore, 1)) :
    ∃ T' h', Stand p l e R s m args below meth c T' (locs ++ [⟨a, j.toNatClampNeg⟩]) cells slots ∧ T'.heap = h' ∧ Wr h h' a j.toNatClampNeg (.long x) ∧ ArJ Z h' a n (ws.set j.toNatClampNeg x) ∧ ∀ target, Steps p.tables e below (T'.setTop { g with pc := g.pc + 1, stack := rest }) target → Steps p.tables e below (T.setTop g) target := by
  obtain ⟨hl, k, cl, Ar, q1, S, q3, H, G⟩ := V
  have hin := inb_of S ⟨h0, h1⟩
  obtain ⟨T', h', X', e', W, st⟩ := stJ X hx hZ eT Ar hin hg hs hd
  have F := Arv.set Ar q1 S q3 H G rfl W _ rfl (by rw [List.length_map]; exact own_lt hl h0 h1)
  rw [← List.map_set] at F
  exact ⟨T', h', X', e', W, ⟨by rw [List.length_set]; exact hl, k, F⟩, st⟩
theorem putI {a : Addr} {n : Int32} {ws : List Int32} (X : Stand p l e R s m args below meth c T locs cells slots) (hx : p.tables.exec = Jvm.exec) (hZ : Z.Warmed39 s.vm) (eT : T.heap = h) (V : ArI Z h a n ws) {j : Int32} {x : Int32} (h0 : ¬ j < 0) (h1 : j < n)
    {g : JFrame} (hg : g.method = m) {rest : List Value} (hs : g.stack = .int x :: .int j :: .ref a :: rest) (hd : decode c.code g.pc = .ok (.iastore, 1)) :
    ∃ T' h', Stand p l e R s m args below meth c T' (locs ++ [⟨a, j.toNatClampNeg⟩]) cells slots ∧ T'.heap = h' ∧ Wr h h' a j.toNatClampNeg (.int x) ∧ ArI Z h' a n (ws.set j.toNatClampNeg x) ∧ ∀ target, Steps p.tables e below (T'.setTop { g with pc := g.pc + 1, stack := rest }) target → Steps p.tables e below (T.setTop g) target := by
  obtain ⟨hl, k, cl, Ar, q1, S, q3, H, G⟩ := V
  have hin := inb_of S ⟨h0, h1⟩
  obtain ⟨T', h', X', e', W, st⟩ := stI X hx hZ eT Ar hin hg hs hd
  have F := Arv.set Ar q1 S q3 H G rfl W _ rfl (by rw [List.length_map]; exact own_lt hl h0 h1)
  rw [← List.map_set] at F
  exact ⟨T', h', X', e', W, ⟨by rw [List.length_set]; exact hl, k, F⟩, st⟩
theorem putB {a : Addr} {n : Int32} {ws : List Int32} (X : Stand p l e R s m args below meth c T locs cells slots) (hx : p.tables.exec = Jvm.exec) (hZ : Z.Warmed39 s.vm) (eT : T.heap = h) (V : ArB Z h a n ws) {j : Int32} {x : Int32} (h0 : ¬ j < 0) (h1 : j < n)
    {g : JFrame} (hg : g.method = m) {rest : List Value} (hs : g.stack = .int x :: .int j :: .ref a :: rest) (hd : decode c.code g.pc = .ok (.bastore, 1)) :
    ∃ T' h', Stand p l e R s m args below meth c T' (locs ++ [⟨a, j.toNatClampNeg⟩]) cells slots ∧ T'.heap = h' ∧ Wr h h' a j.toNatClampNeg (.int (nar .byte x)) ∧ ArB Z h' a n (ws.set j.toNatClampNeg (nar .byte x)) ∧ ∀ target, Steps p.tables e below (T'.setTop { g with pc := g.pc + 1, stack := rest }) target → Steps p.tables e below (T.setTop g) target := by
  obtain ⟨hl, k, cl, Ar, q1, S, q3, H, G⟩ := V
  have hin := inb_of S ⟨h0, h1⟩
  obtain ⟨T', h', X', e', W, st⟩ := stB X hx hZ eT Ar hin hg hs hd
  have F := Arv.set Ar q1 S q3 H G (fits_nar_byte _) W _ rfl (by rw [List.length_map]; exact own_lt hl h0 h1)
  rw [← List.map_set] at F
  exact ⟨T', h', X', e', W, ⟨by rw [List.length_set]; exact hl, k, F⟩, st⟩
theorem own_up {cells' slots' : Nat} (X : Stand p l e R s m args below meth c T locs cells slots) (h1 : cells ≤ cells') (h2 : slots ≤ slots') : Stand p l e R s m args below meth c T locs cells' slots' :=
  { X with same := X.same.mono h1 h2 }
end OwnArr

def RchW (p : Program) (e : Env) (below : List Frame) (s : State) (C S : Nat) (st : State) (K : Option Value → Heap → List Loc → Prop) : Prop :=
  ∃ s₂ v L, Steps p.tables e below st s₂ ∧ s₂.status = .running ∧ Ended s₂ below (.returned v) ∧ K v s₂.heap L ∧ ReturnedEndW s (.returned v) s₂ L C S
section OwnW
variable {p : Program} {l : Launch} {e : Env} {R : Room} {s : State} {vm0 : Vm} {k0 : Nat} {h : Heap} {m : MethodId} {args : Array Value} {below : List Frame} {meth : Method} {c : Code} {T : State} {locs : List Loc} {cells slots C S : Nat} {K : Option Value → Heap → List Loc → Prop}
theorem RchW.step {st st' : State} (h : ∀ t, Steps p.tables e below st' t → Steps p.tables e below st t) (k : RchW p e below s C S st' K) : RchW p e below s C S st K := by
  obtain ⟨s₂, v, L, h1, h2⟩ := k
  exact ⟨s₂, v, L, h _ h1, h2⟩
theorem RchW.retN (X : Stand p l e R (s.setVm vm0) m args below meth c T locs cells slots) (hS : s.Since vm0 k0) (eT : T.heap = h) (hk : k0 ≤ h.size) (hx : p.tables.exec = Jvm.exec) {t : FieldType} (hret : meth.sig.returnType = some t) (hlk : meth.locks = false) (ht : t = .boolean ∨ t = .byte ∨ t = .char ∨ t = .short) {pc : Nat} {Ls : Array Slot} {z : Int32} {rest : List Value} (hd : decode c.code pc = .ok (.ireturn, 1)) (hC : cells ≤ C) (hSl : slots ≤ S) (hK : K (some (.int (nar t z))) T.heap locs) :
    RchW p e below s C S (T.setTop (mkF m pc Ls (.int z :: rest))) K := by
  obtain ⟨fs, hr, hrun, hended, e1, e2, e3, e4⟩ := X.leaveW hS (by rw [eT]; exact hk) (v := some (.int (nar t z))) (fun h => by rw [hret] at h; cases h) hlk
  exact ⟨_, _, _, Jvm.RoadKit.retN X hx hret ht hd hr, hrun, hended, hK, e1, e2, e3, e4.mono hC hSl⟩
end OwnW
def CxW (R : Room) (bytes : ByteArray) (ml : Nat) (own : String) (rt : Option FieldType) (p : Program) (l : Launch) (e : Env) (s : State) (vm0 : Vm) (k0 : Nat) (m : MethodId) (args : Array Value) (below : List Frame) (meth : Method) (c : Code) (T : State) (locs : List Loc) (cells slots : Nat) (Z : State) (a0 : Array Value) (h0 : Heap) (n0 : Nat) : Prop :=
  Cx R bytes ml own rt p l e (s.setVm vm0) m args below meth c T locs cells slots Z a0 h0 n0 ∧ s.Since vm0 k0 ∧ k0 ≤ h0.size
def PL (z : Int32) (n0 : Nat) : Option Value → Heap → List Loc → Prop := fun v h L => v = some (.int z) ∧ Fr n0 L
theorem own_wS {Z : State} {a0 : Array Value} (hw : ∀ d ∈ tables_1, d.before a0 Z = true) : ∀ a ∈ Bundle.stringAtoms, a.before a0 Z = true := fun d hd => by
  simp only [Bundle.stringAtoms, List.mem_cons, List.not_mem_nil, or_false] at hd
  rcases hd with rfl | rfl | rfl | rfl | rfl | rfl | rfl
  · exact hw _ (List.mem_of_getElem? (i := 11) rfl)
  · exact hw _ (List.mem_of_getElem? (i := 12) rfl)
  · exact hw _ (List.mem_of_getElem? (i := 13) rfl)
  · exact hw _ (List.mem_of_getElem? (i := 14) rfl)
  · exact hw _ (List.mem_of_getElem? (i := 15) rfl)
  · exact hw _ (List.mem_of_getElem? (i := 16) rfl)
  · exact hw _ (List.mem_of_getElem? (i := 17) rfl)
-- body 1
theorem d1_0 : decode jdk_29_method_69_code 0 = .ok (.iload_n 0, 1) := by decide +kernel
theorem d1_1 : decode jdk_29_method_69_code 1 = .ok (.iload_n 1, 1) := by decide +kernel
theorem d1_2 : decode jdk_29_method_69_code 2 = .ok (.if_icmp .gt 7, 3) := by decide +kernel
theorem d1_5 : decode jdk_29_method_69_code 5 = .ok (.iload_n 0, 1) := by decide +kernel
theorem d1_6 : decode jdk_29_method_69_code 6 = .ok (.goto 4, 3) := by decide +kernel
theorem d1_9 : decode jdk_29_method_69_code 9 = .ok (.iload_n 1, 1) := by decide +kernel
theorem d1_10 : decode jdk_29_method_69_code 10 = .ok (.ireturn, 1) := by decide +kernel
theorem pd1 : parseMethodDescriptor "(II)I" = some ⟨[.int, .int], some .int⟩ := by decide +kernel
def f1_0 (vi0 : Int32) (vi1 : Int32) : Int32 := (if vi1 < vi0 then vi1 else vi0)
set_option maxRecDepth 65536 in
set_option maxHeartbeats 40000000 in
theorem b1_0 {p : Program} {l : Launch} {e : Env} {s : State} {m : MethodId} {args : Array Value} {below : List Frame} {meth : Method} {c : Code} {T : State} {locs : List Loc} {Z : State} {a0 : Array Value} {h0 : Heap} {n0 : Nat} (cx : Cx ({ frames := 0, cells := 0, slots := 0, locals := 0 } : Room) jdk_29_method_69_code 2 "java/lang/Math" (some .int) p l e s m args below meth c T locs 0 0 Z a0 h0 n0) (vi0 : Int32) (vi1 : Int32) :
    Rch p e below s 0 0 (T.setTop (mkF m 0 #[.val (.int vi0), .val (.int vi1)] [])) (PI (f1_0 vi0 vi1) h0 n0) := by
  obtain ⟨X0, hx, hZ, hw, hby, hml, hown, hret, hlk, e0, Z0, N0⟩ := cx
  unfold f1_0
  refine Rch.step (st' := T.setTop (mkF m 1 #[.val (.int vi0), .val (.int vi1)] [(.int vi0)])) (fun _ hr => XS.iloadN X0.here hx rfl (hb hby d1_0) rfl hr) ?_
  refine Rch.step (st' := T.setTop (mkF m 2 #[.val (.int vi0), .val (.int vi1)] [(.int vi1), (.int vi0)])) (fun _ hr => XS.iloadN X0.here hx rfl (hb hby d1_1) rfl hr) ?_
  by_cases hc1 : vi1 < vi0
  · rw [if_pos hc1]
    refine Rch.step (st' := T.setTop (mkF m 9 #[.val (.int vi0), .val (.int vi1)] [])) (fun _ hr => XS.icmpYes X0.here hx rfl (pc0 := 2) (pc' := 9) rfl (hb hby d1_2) rfl (tlt hc1).2.2.1 (by decide) (by decide) hr) ?_
    refine Rch.step (st' := T.setTop (mkF m 10 #[.val (.int vi0), .val (.int vi1)] [(.int vi1)])) (fun _ hr => XS.iloadN X0.here hx rfl (hb hby d1_9) rfl hr) ?_
    exact Rch.retI X0 hx hret hlk (hb hby d1_10) (by decide) (by decide) ⟨rfl, N0, e0⟩
  · rw [if_neg hc1]
    refine Rch.step (st' := T.setTop (mkF m 5 #[.val (.int vi0), .val (.int vi1)] [])) (fun _ hr => XS.icmpNo X0.here hx rfl (hb hby d1_2) rfl (flt hc1).2.2.1 hr) ?_
    refine Rch.step (st' := T.setTop (mkF m 6 #[.val (.int vi0), .val (.int vi1)] [(.int vi0)])) (fun _ hr => XS.iloadN X0.here hx rfl (hb hby d1_5) rfl hr) ?_
    refine Rch.step (st' := T.setTop (mkF m 10 #[.val (.int vi0), .val (.int vi1)] [(.int vi0)])) (fun _ hr => XS.goto X0.here hx rfl (pc0 := 6) (pc' := 10) rfl (hb hby d1_6) (by decide) (by decide) hr) ?_
    exact Rch.retI X0 hx hret hlk (hb hby d1_10) (by decide) (by decide) ⟨rfl, N0, e0⟩
theorem ef1 (m : MethodId) (x0 : Int32) (x1 : Int32) : entryFrame m #[(.int x0), (.int x1)] 2 = mkF m 0 #[.val (.int x0), .val (.int x1)] [] := by first | (simp [entryFrame, mkF, argsToLocals, Value.category]; done) | rfl
set_option maxRecDepth 65536 in
set_option maxHeartbeats 40000000 in
theorem rm1 (l : Launch) (Z : State) (a0 : Array Value) (hw : ∀ d ∈ tables_1, d.before a0 Z = true) (ws : List Jvm.Cond) (x0 : Int32) (x1 : Int32) (h0 : Heap) (n0 : Nat) (Z0 : n0 ≤ h0.size)  :
    MetFree l (⟨"java/lang/Math", "min", "(II)I"⟩ : MethodName) (head1 (Jvm.Cond.code (⟨"java/lang/Math", "min", "(II)I"⟩ : MethodName) jdk_29_method_69_code 2 (some .int) :: ws) ({ frames := 0, cells := 0, slots := 0, locals := 0 } : Room)) (fun a U => a = #[(.int x0), (.int x1)] ∧ Z.Warmed39 U.vm ∧ U.heap = h0) (fun _ _ _ _ _ => True) (fun _ U o U' => ∃ v L, o = .returned v ∧ PI (f1_0 x0 x1) h0 n0 v U'.heap L ∧ FrameEnd U o U' L ({ frames := 0, cells := 0, slots := 0, locals := 0 } : Room).cells ({ frames := 0, cells := 0, slots := 0, locals := 0 } : Room).slots) := by
  refine MetFree.of_bodySF (Jvm.Free.JP.mathPlain rfl (by decide +kernel)) hisR ?_
  intro p e s m args below meth c s₁ Bd hml0 hP hK
  obtain ⟨rfl, hZ, hh⟩ := hP
  have hown : s.vm.findClass "java/lang/Math" = some m.cls := findClass_of_methodNamed Bd.named
  have e0 : s₁.heap = h0 := by rw [← hh, Bd.state]; rfl
  obtain ⟨s₂, v, L, h1, h2, h3, h4, h5⟩ := b1_0 (T := s₁) ⟨Stand.of_body Bd, Bd.exec, hZ, hw, Bd.bytes, hml0, hown, Bd.returns, BodyLoose.notSynchronized Bd, e0, Z0, Fr.nil n0⟩ x0 x1
  exact ⟨s₂, .returned v, castTop (ef1 m x0 x1) h1, h2, h3, v, L, rfl, h4, h5⟩
-- body 2
theorem d2_0 : decode jdk_29_method_65_code 0 = .ok (.iload_n 0, 1) := by decide +kernel
theorem d2_1 : decode jdk_29_method_65_code 1 = .ok (.iload_n 1, 1) := by decide +kernel
theorem d2_2 : decode jdk_29_method_65_code 2 = .ok (.if_icmp .lt 7, 3) := by decide +kernel
theorem d2_5 : decode jdk_29_method_65_code 5 = .ok (.iload_n 0, 1) := by decide +kernel
theorem d2_6 : decode jdk_29_method_65_code 6 = .ok (.goto 4, 3) := by decide +kernel
theorem d2_9 : decode jdk_29_method_65_code 9 = .ok (.iload_n 1, 1) := by decide +kernel
theorem d2_10 : decode jdk_29_method_65_code 10 = .ok (.ireturn, 1) := by decide +kernel
theorem pd2 : parseMethodDescriptor "(II)I" = some ⟨[.int, .int], some .int⟩ := by decide +kernel
def f2_0 (vi0 : Int32) (vi1 : Int32) : Int32 := (if vi0 < vi1 then vi1 else vi0)
set_option maxRecDepth 65536 in
set_option maxHeartbeats 40000000 in
theorem b2_0 {p : Program} {l : Launch} {e : Env} {s : State} {m : MethodId} {args : Array Value} {below : List Frame} {meth : Method} {c : Code} {T : State} {locs : List Loc} {Z : State} {a0 : Array Value} {h0 : Heap} {n0 : Nat} (cx : Cx ({ frames := 0, cells := 0, slots := 0, locals := 0 } : Room) jdk_29_method_65_code 2 "java/lang/Math" (some .int) p l e s m args below meth c T locs 0 0 Z a0 h0 n0) (vi0 : Int32) (vi1 : Int32) :
    Rch p e below s 0 0 (T.setTop (mkF m 0 #[.val (.int vi0), .val (.int vi1)] [])) (PI (f2_0 vi0 vi1) h0 n0) := by
  obtain ⟨X0, hx, hZ, hw, hby, hml, hown, hret, hlk, e0, Z0, N0⟩ := cx
  unfold f2_0
  refine Rch.step (st' := T.setTop (mkF m 1 #[.val (.int vi0), .val (.int vi1)] [(.int vi0)])) (fun _ hr => XS.iloadN X0.here hx rfl (hb hby d2_0) rfl hr) ?_
  refine Rch.step (st' := T.setTop (mkF m 2 #[.val (.int vi0), .val (.int vi1)] [(.int vi1), (.int vi0)])) (fun _ hr => XS.iloadN X0.here hx rfl (hb hby d2_1) rfl hr) ?_
  by_cases hc1 : vi0 < vi1
  · rw [if_pos hc1]
    refine Rch.step (st' := T.setTop (mkF m 9 #[.val (.int vi0), .val (.int vi1)] [])) (fun _ hr => XS.icmpYes X0.here hx rfl (pc0 := 2) (pc' := 9) rfl (hb hby d2_2) rfl (tlt hc1).1 (by decide) (by decide) hr) ?_
    refine Rch.step (st' := T.setTop (mkF m 10 #[.val (.int vi0), .val (.int vi1)] [(.int vi1)])) (fun _ hr => XS.iloadN X0.here hx rfl (hb hby d2_9) rfl hr) ?_
    exact Rch.retI X0 hx hret hlk (hb hby d2_10) (by decide) (by decide) ⟨rfl, N0, e0⟩
  · rw [if_neg hc1]
    refine Rch.step (st' := T.setTop (mkF m 5 #[.val (.int vi0), .val (.int vi1)] [])) (fun _ hr => XS.icmpNo X0.here hx rfl (hb hby d2_2) rfl (flt hc1).1 hr) ?_
    refine Rch.step (st' := T.setTop (mkF m 6 #[.val (.int vi0), .val (.int vi1)] [(.int vi0)])) (fun _ hr => XS.iloadN X0.here hx rfl (hb hby d2_5) rfl hr) ?_
    refine Rch.step (st' := T.setTop (mkF m 10 #[.val (.int vi0), .val (.int vi1)] [(.int vi0)])) (fun _ hr => XS.goto X0.here hx rfl (pc0 := 6) (pc' := 10) rfl (hb hby d2_6) (by decide) (by decide) hr) ?_
    exact Rch.retI X0 hx hret hlk (hb hby d2_10) (by decide) (by decide) ⟨rfl, N0, e0⟩
theorem ef2 (m : MethodId) (x0 : Int32) (x1 : Int32) : entryFrame m #[(.int x0), (.int x1)] 2 = mkF m 0 #[.val (.int x0), .val (.int x1)] [] := by first | (simp [entryFrame, mkF, argsToLocals, Value.category]; done) | rfl
set_option maxRecDepth 65536 in
set_option maxHeartbeats 40000000 in
theorem rm2 (l : Launch) (Z : State) (a0 : Array Value) (hw : ∀ d ∈ tables_1, d.before a0 Z = true) (ws : List Jvm.Cond) (x0 : Int32) (x1 : Int32) (h0 : Heap) (n0 : Nat) (Z0 : n0 ≤ h0.size)  :
    MetFree l (⟨"java/lang/Math", "max", "(II)I"⟩ : MethodName) (head1 (Jvm.Cond.code (⟨"java/lang/Math", "max", "(II)I"⟩ : MethodName) jdk_29_method_65_code 2 (some .int) :: ws) ({ frames := 0, cells := 0, slots := 0, locals := 0 } : Room)) (fun a U => a = #[(.int x0), (.int x1)] ∧ Z.Warmed39 U.vm ∧ U.heap = h0) (fun _ _ _ _ _ => True) (fun _ U o U' => ∃ v L, o = .returned v ∧ PI (f2_0 x0 x1) h0 n0 v U'.heap L ∧ FrameEnd U o U' L ({ frames := 0, cells := 0, slots := 0, locals := 0 } : Room).cells ({ frames := 0, cells := 0, slots := 0, locals := 0 } : Room).slots) := by
  refine MetFree.of_bodySF (Jvm.Free.JP.mathPlain rfl (by decide +kernel)) hisR ?_
  intro p e s m args below meth c s₁ Bd hml0 hP hK
  obtain ⟨rfl, hZ, hh⟩ := hP
  have hown : s.vm.findClass "java/lang/Math" = some m.cls := findClass_of_methodNamed Bd.named
  have e0 : s₁.heap = h0 := by rw [← hh, Bd.state]; rfl
  obtain ⟨s₂, v, L, h1, h2, h3, h4, h5⟩ := b2_0 (T := s₁) ⟨Stand.of_body Bd, Bd.exec, hZ, hw, Bd.bytes, hml0, hown, Bd.returns, BodyLoose.notSynchronized Bd, e0, Z0, Fr.nil n0⟩ x0 x1
  exact ⟨s₂, .returned v, castTop (ef2 m x0 x1) h1, h2, h3, v, L, rfl, h4, h5⟩
-- body 3
theorem d3_0 : decode prog_19_method_1_code 0 = .ok (.aload_n 0, 1) := by decide +kernel
theorem d3_1 : decode prog_19_method_1_code 1 = .ok (.invokespecial 1, 3) := by decide +kernel
theorem d3_4 : decode prog_19_method_1_code 4 = .ok (.aload_n 0, 1) := by decide +kernel
theorem d3_5 : decode prog_19_method_1_code 5 = .ok (.aload_n 1, 1) := by decide +kernel
theorem d3_6 : decode prog_19_method_1_code 6 = .ok (.putfield 7, 3) := by decide +kernel
theorem d3_9 : decode prog_19_method_1_code 9 = .ok (.aload_n 0, 1) := by decide +kernel
theorem d3_10 : decode prog_19_method_1_code 10 = .ok (.iload_n 2, 1) := by decide +kernel
theorem d3_11 : decode prog_19_method_1_code 11 = .ok (.putfield 13, 3) := by decide +kernel
theorem d3_14 : decode prog_19_method_1_code 14 = .ok (.aload_n 0, 1) := by decide +kernel
theorem d3_15 : decode prog_19_method_1_code 15 = .ok (.iload_n 3, 1) := by decide +kernel
theorem d3_16 : decode prog_19_method_1_code 16 = .ok (.putfield 17, 3) := by decide +kernel
theorem d3_19 : decode prog_19_method_1_code 19 = .ok (.aload_n 0, 1) := by decide +kernel
theorem d3_20 : decode prog_19_method_1_code 20 = .ok (.iload 4, 2) := by decide +kernel
theorem d3_22 : decode prog_19_method_1_code 22 = .ok (.putfield 20, 3) := by decide +kernel
theorem d3_25 : decode prog_19_method_1_code 25 = .ok (.return_, 1) := by decide +kernel
theorem pn3 : plainName "com/example/template_stripper/templatestripper/Region" = true := by first | (simp [plainName, overriddenIn]; done) | decide +kernel
theorem pd3 : parseMethodDescriptor "(Ljava/lang/String;III)V" = some ⟨[(.object "java/lang/String"), .int, .int, .int], none⟩ := by decide +kernel
def Q3 (Z : State) (ob : Addr) (oS : Addr) (kf : Int32) (ke : Int32) (kd : Int32) (u1 : Int32) (u2 : Int32) (u3 : Int32) (h0 : Heap) (n0 : Nat) : Option Value → Heap → List Loc → Prop := fun v h L => v = none ∧ Fr n0 L ∧ Keep h0 h [ob] ∧ Exa Z h ob "com/example/template_stripper/templatestripper/Region" ∧ Fld Z h ob "com/example/template_stripper/templatestripper/Region" "position" "Ljava/lang/String;" (.ref oS) ∧ Fld Z h ob "com/example/template_stripper/templatestripper/Region" "firstSegment" "I" (.int kf) ∧ Fld Z h ob "com/example/template_stripper/templatestripper/Region" "endSegment" "I" (.int ke) ∧ Fld Z h ob "com/example/template_stripper/templatestripper/Region" "depth" "I" (.int kd)
set_option maxRecDepth 65536 in
set_option maxHeartbeats 40000000 in
theorem b3_0 {p : Program} {l : Launch} {e : Env} {s : State} {m : MethodId} {args : Array Value} {below : List Frame} {meth : Method} {c : Code} {T : State} {locs : List Loc} {Z : State} {a0 : Array Value} {h0 : Heap} {n0 : Nat} (cx : Cx ({ frames := 1, cells := 0, slots := 0, locals := 12 } : Room) prog_19_method_1_code 5 "com/example/template_stripper/templatestripper/Region" none p l e s m args below meth c T locs 0 0 Z a0 h0 n0) (va0 : Addr) (va1 : Addr) (vi2 : Int32) (vi3 : Int32) (vi4 : Int32) (w1 : Int32) (w2 : Int32) (w3 : Int32) (Hf0 : Exa Z h0 va0 "com/example/template_stripper/templatestripper/Region") (Hf1 : Fld Z h0 va0 "com/example/template_stripper/templatestripper/Region" "depth" "I" (.int w1)) (Hf2 : Fld Z h0 va0 "com/example/template_stripper/templatestripper/Region" "endSegment" "I" (.int w2)) (Hf3 : Fld Z h0 va0 "com/example/template_stripper/templatestripper/Region" "firstSegment" "I" (.int w3)) (Hf4 : Fld Z h0 va0 "com/example/template_stripper/templatestripper/Region" "position" "Ljava/lang/String;" .null) (lw0 : n0 ≤ va0) (hnm : meth.name = "<init>") :
    Rch p e below s 0 0 (T.setTop (mkF m 0 #[.val (.ref va0), .val (.ref va1), .val (.int vi2), .val (.int vi3), .val (.int vi4)] [])) (Q3 Z va0 va1 vi2 vi3 vi4 w3 w2 w1 h0 n0) := by
  obtain ⟨X0, hx, hZ, hw, hby, hml, hown, hret, hlk, e0, Z0, N0⟩ := cx
  refine Rch.step (st' := T.setTop (mkF m 1 #[.val (.ref va0), .val (.ref va1), .val (.int vi2), .val (.int vi3), .val (.int vi4)] [(.ref va0)])) (fun _ hr => XS.aloadN X0.here hx rfl (hb hby d3_0) rfl rfl hr) ?_
  obtain ⟨T1, X1, e1, st1⟩ := initO X0 hx hZ hown (hw _ (List.mem_of_getElem? (i := 21) rfl)) (hw _ (List.mem_of_getElem? (i := 22) rfl)) (hw _ (List.mem_of_getElem? (i := 23) rfl)) e0 (g := (mkF m 1 #[.val (.ref va0), .val (.ref va1), .val (.int vi2), .val (.int vi3), .val (.int vi4)] [(.ref va0)])) rfl (by rw [hml]; rfl) rfl (hb hby d3_1) (by decide) (W := 0) (by show 2 * 0 + _ ≤ _; exact Nat.le_of_eq rfl) (by decide)
  refine Rch.step (st' := T1.setTop (mkF m 4 #[.val (.ref va0), .val (.ref va1), .val (.int vi2), .val (.int vi3), .val (.int vi4)] [])) (fun _ hr => st1 _ hr) ?_
  refine Rch.step (st' := T1.setTop (mkF m 5 #[.val (.ref va0), .val (.ref va1), .val (.int vi2), .val (.int vi3), .val (.int vi4)] [(.ref va0)])) (fun _ hr => XS.aloadN X1.here hx rfl (hb hby d3_4) rfl rfl hr) ?_
  refine Rch.step (st' := T1.setTop (mkF m 6 #[.val (.ref va0), .val (.ref va1), .val (.int vi2), .val (.int vi3), .val (.int vi4)] [(.ref va1), (.ref va0)])) (fun _ hr => XS.aloadN X1.here hx rfl (hb hby d3_5) rfl rfl hr) ?_
  obtain ⟨T2, h2, X2, e2, W2, st2⟩ := putF X1 hx hZ hown (host := "") (Or.inl (hw _ (List.mem_of_getElem? (i := 24) rfl))) Via.refl e1 Hf4 Hf0 (Or.inr ⟨(hw _ (List.mem_of_getElem? (i := 25) rfl)), rfl, hnm⟩) (hw _ (List.mem_of_getElem? (i := 8) rfl)) (ty := (.object "java/lang/String")) (by decide) rfl rfl (g := (mkF m 6 #[.val (.ref va0), .val (.ref va1), .val (.int vi2), .val (.int vi3), .val (.int vi4)] [(.ref va1), (.ref va0)])) rfl rfl (hb hby d3_6)
  have E_va0_2 : Exa Z h2 va0 "com/example/template_stripper/templatestripper/Region" := Hf0.wr W2
  have Fdepth_va0_2 : Fld Z h2 va0 "com/example/template_stripper/templatestripper/Region" "depth" "I" (.int w1) := Hf1.other W2 (Or.inr (slot_ne (Or.inr (hw _ (List.mem_of_getElem? (i := 31) rfl))) (Or.inr (hw _ (List.mem_of_getElem? (i := 25) rfl))) (by decide) (t := .int) (t' := (.object "java/lang/String")) (by decide) (by decide)))
  have FendSegment_va0_2 : Fld Z h2 va0 "com/example/template_stripper/templatestripper/Region" "endSegment" "I" (.int w2) := Hf2.other W2 (Or.inr (slot_ne (Or.inr (hw _ (List.mem_of_getElem? (i := 29) rfl))) (Or.inr (hw _ (List.mem_of_getElem? (i := 25) rfl))) (by decide) (t := .int) (t' := (.object "java/lang/String")) (by decide) (by decide)))
  have FfirstSegment_va0_2 : Fld Z h2 va0 "com/example/template_stripper/templatestripper/Region" "firstSegment" "I" (.int w3) := Hf3.other W2 (Or.inr (slot_ne (Or.inr (hw _ (List.mem_of_getElem? (i := 27) rfl))) (Or.inr (hw _ (List.mem_of_getElem? (i := 25) rfl))) (by decide) (t := .int) (t' := (.object "java/lang/String")) (by decide) (by decide)))
  have Fposition_va0_2 : Fld Z h2 va0 "com/example/template_stripper/templatestripper/Region" "position" "Ljava/lang/String;" (.ref va1) := Hf4.same W2
  have N2 := Fr.snoc X2 N0 lw0
  have Z2 : n0 ≤ h2.size := by rw [W2.size]; exact Z0
  have K2 : Keep h0 h2 [va0] := (Keep.refl h0 [va0]).wr W2 (Or.inl (List.mem_of_getElem? (i := 0) rfl))
  refine Rch.step (st' := T2.setTop (mkF m 9 #[.val (.ref va0), .val (.ref va1), .val (.int vi2), .val (.int vi3), .val (.int vi4)] [])) (fun _ hr => st2 _ hr) ?_
  refine Rch.step (st' := T2.setTop (mkF m 10 #[.val (.ref va0), .val (.ref va1), .val (.int vi2), .val (.int vi3), .val (.int vi4)] [(.ref va0)])) (fun _ hr => XS.aloadN X2.here hx rfl (hb hby d3_9) rfl rfl hr) ?_
  refine Rch.step (st' := T2.setTop (mkF m 11 #[.val (.ref va0), .val (.ref va1), .val (.int vi2), .val (.int vi3), .val (.int vi4)] [(.int vi2), (.ref va0)])) (fun _ hr => XS.iloadN X2.here hx rfl (hb hby d3_10) rfl hr) ?_
  obtain ⟨T3, h3, X3, e3, W3, st3⟩ := putF X2 hx hZ hown (host := "") (Or.inl (hw _ (List.mem_of_getElem? (i := 26) rfl))) Via.refl e2 FfirstSegment_va0_2 E_va0_2 (Or.inr ⟨(hw _ (List.mem_of_getElem? (i := 27) rfl)), rfl, hnm⟩) (hw _ (List.mem_of_getElem? (i := 8) rfl)) (ty := .int) (by decide) rfl rfl (g := (mkF m 11 #[.val (.ref va0), .val (.ref va1), .val (.int vi2), .val (.int vi3), .val (.int vi4)] [(.int vi2), (.ref va0)])) rfl rfl (hb hby d3_11)
  have E_va0_3 : Exa Z h3 va0 "com/example/template_stripper/templatestripper/Region" := E_va0_2.wr W3
  have Fdepth_va0_3 : Fld Z h3 va0 "com/example/template_stripper/templatestripper/Region" "depth" "I" (.int w1) := Fdepth_va0_2.other W3 (Or.inr (slot_ne (Or.inr (hw _ (List.mem_of_getElem? (i := 31) rfl))) (Or.inr (hw _ (List.mem_of_getElem? (i := 27) rfl))) (by decide) (t := .int) (t' := .int) (by decide) (by decide)))
  have FendSegment_va0_3 : Fld Z h3 va0 "com/example/template_stripper/templatestripper/Region" "endSegment" "I" (.int w2) := FendSegment_va0_2.other W3 (Or.inr (slot_ne (Or.inr (hw _ (List.mem_of_getElem? (i := 29) rfl))) (Or.inr (hw _ (List.mem_of_getElem? (i := 27) rfl))) (by decide) (t := .int) (t' := .int) (by decide) (by decide)))
  have Fposition_va0_3 : Fld Z h3 va0 "com/example/template_stripper/templatestripper/Region" "position" "Ljava/lang/String;" (.ref va1) := Fposition_va0_2.other W3 (Or.inr (slot_ne (Or.inr (hw _ (List.mem_of_getElem? (i := 25) rfl))) (Or.inr (hw _ (List.mem_of_getElem? (i := 27) rfl))) (by decide) (t := (.object "java/lang/String")) (t' := .int) (by decide) (by decide)))
  have FfirstSegment_va0_3 : Fld Z h3 va0 "com/example/template_stripper/templatestripper/Region" "firstSegment" "I" (.int vi2) := FfirstSegment_va0_2.same W3
  have N3 := Fr.snoc X3 N2 lw0
  have Z3 : n0 ≤ h3.size := by rw [W3.size]; exact Z2
  have K3 : Keep h0 h3 [va0] := K2.wr W3 (Or.inl (List.mem_of_getElem? (i := 0) rfl))
  refine Rch.step (st' := T3.setTop (mkF m 14 #[.val (.ref va0), .val (.ref va1), .val (.int vi2), .val (.int vi3), .val (.int vi4)] [])) (fun _ hr => st3 _ hr) ?_
  refine Rch.step (st' := T3.setTop (mkF m 15 #[.val (.ref va0), .val (.ref va1), .val (.int vi2), .val (.int vi3), .val (.int vi4)] [(.ref va0)])) (fun _ hr => XS.aloadN X3.here hx rfl (hb hby d3_14) rfl rfl hr) ?_
  refine Rch.step (st' := T3.setTop (mkF m 16 #[.val (.ref va0), .val (.ref va1), .val (.int vi2), .val (.int vi3), .val (.int vi4)] [(.int vi3), (.ref va0)])) (fun _ hr => XS.iloadN X3.here hx rfl (hb hby d3_15) rfl hr) ?_
  obtain ⟨T4, h4, X4, e4, W4, st4⟩ := putF X3 hx hZ hown (host := "") (Or.inl (hw _ (List.mem_of_getElem? (i := 28) rfl))) Via.refl e3 FendSegment_va0_3 E_va0_3 (Or.inr ⟨(hw _ (List.mem_of_getElem? (i := 29) rfl)), rfl, hnm⟩) (hw _ (List.mem_of_getElem? (i := 8) rfl)) (ty := .int) (by decide) rfl rfl (g := (mkF m 16 #[.val (.ref va0), .val (.ref va1), .val (.int vi2), .val (.int vi3), .val (.int vi4)] [(.int vi3), (.ref va0)])) rfl rfl (hb hby d3_16)
  have E_va0_4 : Exa Z h4 va0 "com/example/template_stripper/templatestripper/Region" := E_va0_3.wr W4
  have Fdepth_va0_4 : Fld Z h4 va0 "com/example/template_stripper/templatestripper/Region" "depth" "I" (.int w1) := Fdepth_va0_3.other W4 (Or.inr (slot_ne (Or.inr (hw _ (List.mem_of_getElem? (i := 31) rfl))) (Or.inr (hw _ (List.mem_of_getElem? (i := 29) rfl))) (by decide) (t := .int) (t' := .int) (by decide) (by decide)))
  have FfirstSegment_va0_4 : Fld Z h4 va0 "com/example/template_stripper/templatestripper/Region" "firstSegment" "I" (.int vi2) := FfirstSegment_va0_3.other W4 (Or.inr (slot_ne (Or.inr (hw _ (List.mem_of_getElem? (i := 27) rfl))) (Or.inr (hw _ (List.mem_of_getElem? (i := 29) rfl))) (by decide) (t := .int) (t' := .int) (by decide) (by decide)))
  have Fposition_va0_4 : Fld Z h4 va0 "com/example/template_stripper/templatestripper/Region" "position" "Ljava/lang/String;" (.ref va1) := Fposition_va0_3.other W4 (Or.inr (slot_ne (Or.inr (hw _ (List.mem_of_getElem? (i := 25) rfl))) (Or.inr (hw _ (List.mem_of_getElem? (i := 29) rfl))) (by decide) (t := (.object "java/lang/String")) (t' := .int) (by decide) (by decide)))
  have FendSegment_va0_4 : Fld Z h4 va0 "com/example/template_stripper/templatestripper/Region" "endSegment" "I" (.int vi3) := FendSegment_va0_3.same W4
  have N4 := Fr.snoc X4 N3 lw0
  have Z4 : n0 ≤ h4.size := by rw [W4.size]; exact Z3
  have K4 : Keep h0 h4 [va0] := K3.wr W4 (Or.inl (List.mem_of_getElem? (i := 0) rfl))
  refine Rch.step (st' := T4.setTop (mkF m 19 #[.val (.ref va0), .val (.ref va1), .val (.int vi2), .val (.int vi3), .val (.int vi4)] [])) (fun _ hr => st4 _ hr) ?_
  refine Rch.step (st' := T4.setTop (mkF m 20 #[.val (.ref va0), .val (.ref va1), .val (.int vi2), .val (.int vi3), .val (.int vi4)] [(.ref va0)])) (fun _ hr => XS.aloadN X4.here hx rfl (hb hby d3_19) rfl rfl hr) ?_
  refine Rch.step (st' := T4.setTop (mkF m 22 #[.val (.ref va0), .val (.ref va1), .val (.int vi2), .val (.int vi3), .val (.int vi4)] [(.int vi4), (.ref va0)])) (fun _ hr => XS.iload X4.here hx rfl (hb hby d3_20) rfl hr) ?_
  obtain ⟨T5, h5, X5, e5, W5, st5⟩ := putF X4 hx hZ hown (host := "") (Or.inl (hw _ (List.mem_of_getElem? (i := 30) rfl))) Via.refl e4 Fdepth_va0_4 E_va0_4 (Or.inr ⟨(hw _ (List.mem_of_getElem? (i := 31) rfl)), rfl, hnm⟩) (hw _ (List.mem_of_getElem? (i := 8) rfl)) (ty := .int) (by decide) rfl rfl (g := (mkF m 22 #[.val (.ref va0), .val (.ref va1), .val (.int vi2), .val (.int vi3), .val (.int vi4)] [(.int vi4), (.ref va0)])) rfl rfl (hb hby d3_22)
  have E_va0_5 : Exa Z h5 va0 "com/example/template_stripper/templatestripper/Region" := E_va0_4.wr W5
  have FendSegment_va0_5 : Fld Z h5 va0 "com/example/template_stripper/templatestripper/Region" "endSegment" "I" (.int vi3) := FendSegment_va0_4.other W5 (Or.inr (slot_ne (Or.inr (hw _ (List.mem_of_getElem? (i := 29) rfl))) (Or.inr (hw _ (List.mem_of_getElem? (i := 31) rfl))) (by decide) (t := .int) (t' := .int) (by decide) (by decide)))
  have FfirstSegment_va0_5 : Fld Z h5 va0 "com/example/template_stripper/templatestripper/Region" "firstSegment" "I" (.int vi2) := FfirstSegment_va0_4.other W5 (Or.inr (slot_ne (Or.inr (hw _ (List.mem_of_getElem? (i := 27) rfl))) (Or.inr (hw _ (List.mem_of_getElem? (i := 31) rfl))) (by decide) (t := .int) (t' := .int) (by decide) (by decide)))
  have Fposition_va0_5 : Fld Z h5 va0 "com/example/template_stripper/templatestripper/Region" "position" "Ljava/lang/String;" (.ref va1) := Fposition_va0_4.other W5 (Or.inr (slot_ne (Or.inr (hw _ (List.mem_of_getElem? (i := 25) rfl))) (Or.inr (hw _ (List.mem_of_getElem? (i := 31) rfl))) (by decide) (t := (.object "java/lang/String")) (t' := .int) (by decide) (by decide)))
  have Fdepth_va0_5 : Fld Z h5 va0 "com/example/template_stripper/templatestripper/Region" "depth" "I" (.int vi4) := Fdepth_va0_4.same W5
  have N5 := Fr.snoc X5 N4 lw0
  have Z5 : n0 ≤ h5.size := by rw [W5.size]; exact Z4
  have K5 : Keep h0 h5 [va0] := K4.wr W5 (Or.inl (List.mem_of_getElem? (i := 0) rfl))
  refine Rch.step (st' := T5.setTop (mkF m 25 #[.val (.ref va0), .val (.ref va1), .val (.int vi2), .val (.int vi3), .val (.int vi4)] [])) (fun _ hr => st5 _ hr) ?_
  exact Rch.retV X5 hx hret hlk (hb hby d3_25) (by decide) (by decide) (by rw [e5]; exact ⟨rfl, N5, K5, E_va0_5, Fposition_va0_5, FfirstSegment_va0_5, FendSegment_va0_5, Fdepth_va0_5⟩)
theorem ef3 (m : MethodId) (x0 : Addr) (x1 : Addr) (x2 : Int32) (x3 : Int32) (x4 : Int32) : entryFrame m #[(.ref x0), (.ref x1), (.int x2), (.int x3), (.int x4)] 5 = mkF m 0 #[.val (.ref x0), .val (.ref x1), .val (.int x2), .val (.int x3), .val (.int x4)] [] := by first | (simp [entryFrame, mkF, argsToLocals, Value.category]; done) | rfl
set_option maxRecDepth 65536 in
set_option maxHeartbeats 40000000 in
theorem rm3 (l : Launch) (Z : State) (a0 : Array Value) (hw : ∀ d ∈ tables_1, d.before a0 Z = true) (ws : List Jvm.Cond) (ob : Addr) (oS : Addr) (kf : Int32) (ke : Int32) (kd : Int32) (u1 : Int32) (u2 : Int32) (u3 : Int32) (h0 : Heap) (n0 : Nat) (Z0 : n0 ≤ h0.size) (lo_ob : n0 ≤ ob) (H0 : Exa Z h0 ob "com/example/template_stripper/templatestripper/Region") (H1 : Fld Z h0 ob "com/example/template_stripper/templatestripper/Region" "position" "Ljava/lang/String;" .null) (H2 : Fld Z h0 ob "com/example/template_stripper/templatestripper/Region" "firstSegment" "I" (.int u1)) (H3 : Fld Z h0 ob "com/example/template_stripper/templatestripper/Region" "endSegment" "I" (.int u2)) (H4 : Fld Z h0 ob "com/example/template_stripper/templatestripper/Region" "depth" "I" (.int u3)) :
    MetFree l (⟨"com/example/template_stripper/templatestripper/Region", "<init>", "(Ljava/lang/String;III)V"⟩ : MethodName) (head1 (Jvm.Cond.code (⟨"com/example/template_stripper/templatestripper/Region", "<init>", "(Ljava/lang/String;III)V"⟩ : MethodName) prog_19_method_1_code 5 none :: ws) ({ frames := 1, cells := 0, slots := 0, locals := 12 } : Room)) (fun a U => a = #[(.ref ob), (.ref oS), (.int kf), (.int ke), (.int kd)] ∧ Z.Warmed39 U.vm ∧ U.heap = h0) (fun _ _ _ _ _ => True) (fun _ U o U' => ∃ v L, o = .returned v ∧ Q3 Z ob oS kf ke kd u1 u2 u3 h0 n0 v U'.heap L ∧ FrameEnd U o U' L ({ frames := 1, cells := 0, slots := 0, locals := 12 } : Room).cells ({ frames := 1, cells := 0, slots := 0, locals := 12 } : Room).slots) := by
  refine MetFree.of_bodySF (plainFor_of_name pn3) hisR ?_
  intro p e s m args below meth c s₁ Bd hml0 hP hK
  obtain ⟨rfl, hZ, hh⟩ := hP
  have hown : s.vm.findClass "com/example/template_stripper/templatestripper/Region" = some m.cls := findClass_of_methodNamed Bd.named
  have e0 : s₁.heap = h0 := by rw [← hh, Bd.state]; rfl
  obtain ⟨s₂, v, L, h1, h2, h3, h4, h5⟩ := b3_0 (T := s₁) ⟨Stand.of_body Bd, Bd.exec, hZ, hw, Bd.bytes, hml0, hown, Bd.returns, BodyLoose.notSynchronized Bd, e0, Z0, Fr.nil n0⟩ ob oS kf ke kd u3 u2 u1 H0 H4 H3 H2 H1 lo_ob (name_of_methodNamed Bd.named Bd.method).1
  exact ⟨s₂, .returned v, castTop (ef3 m ob oS kf ke kd) h1, h2, h3, v, L, rfl, h4, h5⟩
-- body 5
theorem d5_0 : decode prog_19_method_6_code 0 = .ok (.aload_n 0, 1) := by decide +kernel
theorem d5_1 : decode prog_19_method_6_code 1 = .ok (.getfield 13, 3) := by decide +kernel
theorem d5_4 : decode prog_19_method_6_code 4 = .ok (.aload_n 1, 1) := by decide +kernel
theorem d5_5 : decode prog_19_method_6_code 5 = .ok (.getfield 17, 3) := by decide +kernel
theorem d5_8 : decode prog_19_method_6_code 8 = .ok (.if_icmp .ge 18, 3) := by decide +kernel
theorem d5_11 : decode prog_19_method_6_code 11 = .ok (.aload_n 1, 1) := by decide +kernel
theorem d5_12 : decode prog_19_method_6_code 12 = .ok (.getfield 13, 3) := by decide +kernel
theorem d5_15 : decode prog_19_method_6_code 15 = .ok (.aload_n 0, 1) := by decide +kernel
theorem d5_16 : decode prog_19_method_6_code 16 = .ok (.getfield 17, 3) := by decide +kernel
theorem d5_19 : decode prog_19_method_6_code 19 = .ok (.if_icmp .ge 7, 3) := by decide +kernel
theorem d5_22 : decode prog_19_method_6_code 22 = .ok (.iconst 1, 1) := by decide +kernel
theorem d5_23 : decode prog_19_method_6_code 23 = .ok (.goto 4, 3) := by decide +kernel
theorem d5_26 : decode prog_19_method_6_code 26 = .ok (.iconst 0, 1) := by decide +kernel
theorem d5_27 : decode prog_19_method_6_code 27 = .ok (.ireturn, 1) := by decide +kernel
theorem pn5 : plainName "com/example/template_stripper/templatestripper/Region" = true := by first | (simp [plainName, overriddenIn]; done) | decide +kernel
theorem pd5 : parseMethodDescriptor "(Lcom/example/template_stripper/templatestripper/Region;)Z" = some ⟨[(.object "com/example/template_stripper/templatestripper/Region")], some .boolean⟩ := by decide +kernel
def f5_0 (w0 : Int32) (w1 : Int32) (w2 : Int32) (w3 : Int32) : Int32 := (if w1 < w2 then (if w3 < w0 then (1 : Int32) else (0 : Int32)) else (0 : Int32))
set_option maxRecDepth 65536 in
set_option maxHeartbeats 40000000 in
theorem b5_0 {p : Program} {l : Launch} {e : Env} {s : State} {m : MethodId} {args : Array Value} {below : List Frame} {meth : Method} {c : Code} {T : State} {locs : List Loc} {Z : State} {a0 : Array Value} {h0 : Heap} {n0 : Nat} (cx : Cx ({ frames := 0, cells := 0, slots := 0, locals := 0 } : Room) prog_19_method_6_code 2 "com/example/template_stripper/templatestripper/Region" (some .boolean) p l e s m args below meth c T locs 0 0 Z a0 h0 n0) (va0 : Addr) (va1 : Addr) (w0 : Int32) (w1 : Int32) (w2 : Int32) (w3 : Int32) (Hf0 : Fld Z h0 va0 "com/example/template_stripper/templatestripper/Region" "endSegment" "I" (.int w0)) (Hf1 : Fld Z h0 va0 "com/example/template_stripper/templatestripper/Region" "firstSegment" "I" (.int w1)) (Hf2 : Fld Z h0 va1 "com/example/template_stripper/templatestripper/Region" "endSegment" "I" (.int w2)) (Hf3 : Fld Z h0 va1 "com/example/template_stripper/templatestripper/Region" "firstSegment" "I" (.int w3)) :
    Rch p e below s 0 0 (T.setTop (mkF m 0 #[.val (.ref va0), .val (.ref va1)] [])) (PI (f5_0 w0 w1 w2 w3) h0 n0) := by
  obtain ⟨X0, hx, hZ, hw, hby, hml, hown, hret, hlk, e0, Z0, N0⟩ := cx
  unfold f5_0
  refine Rch.step (st' := T.setTop (mkF m 1 #[.val (.ref va0), .val (.ref va1)] [(.ref va0)])) (fun _ hr => XS.aloadN X0.here hx rfl (hb hby d5_0) rfl rfl hr) ?_
  obtain ⟨T1, X1, e1, st1⟩ := getF X0 hx hZ hown (host := "") (Or.inl (hw _ (List.mem_of_getElem? (i := 26) rfl))) Via.refl e0 Hf1 (g := (mkF m 1 #[.val (.ref va0), .val (.ref va1)] [(.ref va0)])) rfl rfl (hb hby d5_1)
  refine Rch.step (st' := T1.setTop (mkF m 4 #[.val (.ref va0), .val (.ref va1)] [(.int w1)])) (fun _ hr => st1 _ hr) ?_
  refine Rch.step (st' := T1.setTop (mkF m 5 #[.val (.ref va0), .val (.ref va1)] [(.ref va1), (.int w1)])) (fun _ hr => XS.aloadN X1.here hx rfl (hb hby d5_4) rfl rfl hr) ?_
  obtain ⟨T2, X2, e2, st2⟩ := getF X1 hx hZ hown (host := "") (Or.inl (hw _ (List.mem_of_getElem? (i := 28) rfl))) Via.refl e1 Hf2 (g := (mkF m 5 #[.val (.ref va0), .val (.ref va1)] [(.ref va1), (.int w1)])) rfl rfl (hb hby d5_5)
  refine Rch.step (st' := T2.setTop (mkF m 8 #[.val (.ref va0), .val (.ref va1)] [(.int w2), (.int w1)])) (fun _ hr => st2 _ hr) ?_
  by_cases hc3 : w1 < w2
  · rw [if_pos hc3]
    refine Rch.step (st' := T2.setTop (mkF m 11 #[.val (.ref va0), .val (.ref va1)] [])) (fun _ hr => XS.icmpNo X2.here hx rfl (hb hby d5_8) rfl (tlt hc3).2.1 hr) ?_
    refine Rch.step (st' := T2.setTop (mkF m 12 #[.val (.ref va0), .val (.ref va1)] [(.ref va1)])) (fun _ hr => XS.aloadN X2.here hx rfl (hb hby d5_11) rfl rfl hr) ?_
    obtain ⟨T4, X4, e4, st4⟩ := getF X2 hx hZ hown (host := "") (Or.inl (hw _ (List.mem_of_getElem? (i := 26) rfl))) Via.refl e2 Hf3 (g := (mkF m 12 #[.val (.ref va0), .val (.ref va1)] [(.ref va1)])) rfl rfl (hb hby d5_12)
    refine Rch.step (st' := T4.setTop (mkF m 15 #[.val (.ref va0), .val (.ref va1)] [(.int w3)])) (fun _ hr => st4 _ hr) ?_
    refine Rch.step (st' := T4.setTop (mkF m 16 #[.val (.ref va0), .val (.ref va1)] [(.ref va0), (.int w3)])) (fun _ hr => XS.aloadN X4.here hx rfl (hb hby d5_15) rfl rfl hr) ?_
    obtain ⟨T5, X5, e5, st5⟩ := getF X4 hx hZ hown (host := "") (Or.inl (hw _ (List.mem_of_getElem? (i := 28) rfl))) Via.refl e4 Hf0 (g := (mkF m 16 #[.val (.ref va0), .val (.ref va1)] [(.ref va0), (.int w3)])) rfl rfl (hb hby d5_16)
    refine Rch.step (st' := T5.setTop (mkF m 19 #[.val (.ref va0), .val (.ref va1)] [(.int w0), (.int w3)])) (fun _ hr => st5 _ hr) ?_
    by_cases hc6 : w3 < w0
    · rw [if_pos hc6]
      refine Rch.step (st' := T5.setTop (mkF m 22 #[.val (.ref va0), .val (.ref va1)] [])) (fun _ hr => XS.icmpNo X5.here hx rfl (hb hby d5_19) rfl (tlt hc6).2.1 hr) ?_
      refine Rch.step (st' := T5.setTop (mkF m 23 #[.val (.ref va0), .val (.ref va1)] [(.int (1 : Int32))])) (fun _ hr => XS.iconst X5.here hx rfl (hb hby d5_22) hr) ?_
      refine Rch.step (st' := T5.setTop (mkF m 27 #[.val (.ref va0), .val (.ref va1)] [(.int (1 : Int32))])) (fun _ hr => XS.goto X5.here hx rfl (pc0 := 23) (pc' := 27) rfl (hb hby d5_23) (by decide) (by decide) hr) ?_
      exact Rch.retN X5 hx (t := .boolean) hret hlk (by simp) (hb hby d5_27) (by decide) (by decide) ⟨rfl, N0, e5⟩
    · rw [if_neg hc6]
      refine Rch.step (st' := T5.setTop (mkF m 26 #[.val (.ref va0), .val (.ref va1)] [])) (fun _ hr => XS.icmpYes X5.here hx rfl (pc0 := 19) (pc' := 26) rfl (hb hby d5_19) rfl (flt hc6).2.1 (by decide) (by decide) hr) ?_
      refine Rch.step (st' := T5.setTop (mkF m 27 #[.val (.ref va0), .val (.ref va1)] [(.int (0 : Int32))])) (fun _ hr => XS.iconst X5.here hx rfl (hb hby d5_26) hr) ?_
      exact Rch.retN X5 hx (t := .boolean) hret hlk (by simp) (hb hby d5_27) (by decide) (by decide) ⟨rfl, N0, e5⟩
  · rw [if_neg hc3]
    refine Rch.step (st' := T2.setTop (mkF m 26 #[.val (.ref va0), .val (.ref va1)] [])) (fun _ hr => XS.icmpYes X2.here hx rfl (pc0 := 8) (pc' := 26) rfl (hb hby d5_8) rfl (flt hc3).2.1 (by decide) (by decide) hr) ?_
    refine Rch.step (st' := T2.setTop (mkF m 27 #[.val (.ref va0), .val (.ref va1)] [(.int (0 : Int32))])) (fun _ hr => XS.iconst X2.here hx rfl (hb hby d5_26) hr) ?_
    exact Rch.retN X2 hx (t := .boolean) hret hlk (by simp) (hb hby d5_27) (by decide) (by decide) ⟨rfl, N0, e2⟩
theorem ef5 (m : MethodId) (x0 : Addr) (x1 : Addr) : entryFrame m #[(.ref x0), (.ref x1)] 2 = mkF m 0 #[.val (.ref x0), .val (.ref x1)] [] := by first | (simp [entryFrame, mkF, argsToLocals, Value.category]; done) | rfl
set_option maxRecDepth 65536 in
set_option maxHeartbeats 40000000 in
theorem rm5 (l : Launch) (Z : State) (a0 : Array Value) (hw : ∀ d ∈ tables_1, d.before a0 Z = true) (ws : List Jvm.Cond) (ob : Addr) (oo : Addr) (kf : Int32) (ke : Int32) (jf : Int32) (je : Int32) (h0 : Heap) (n0 : Nat) (Z0 : n0 ≤ h0.size) (H0 : Fld Z h0 ob "com/example/template_stripper/templatestripper/Region" "firstSegment" "I" (.int kf)) (H1 : Fld Z h0 ob "com/example/template_stripper/templatestripper/Region" "endSegment" "I" (.int ke)) (H2 : Fld Z h0 oo "com/example/template_stripper/templatestripper/Region" "firstSegment" "I" (.int jf)) (H3 : Fld Z h0 oo "com/example/template_stripper/templatestripper/Region" "endSegment" "I" (.int je)) :
    MetFree l (⟨"com/example/template_stripper/templatestripper/Region", "overlaps", "(Lcom/example/template_stripper/templatestripper/Region;)Z"⟩ : MethodName) (head1 (Jvm.Cond.code (⟨"com/example/template_stripper/templatestripper/Region", "overlaps", "(Lcom/example/template_stripper/templatestripper/Region;)Z"⟩ : MethodName) prog_19_method_6_code 2 (some .boolean) :: ws) ({ frames := 0, cells := 0, slots := 0, locals := 0 } : Room)) (fun a U => a = #[(.ref ob), (.ref oo)] ∧ Z.Warmed39 U.vm ∧ U.heap = h0) (fun _ _ _ _ _ => True) (fun _ U o U' => ∃ v L, o = .returned v ∧ PI (f5_0 ke kf je jf) h0 n0 v U'.heap L ∧ FrameEnd U o U' L ({ frames := 0, cells := 0, slots := 0, locals := 0 } : Room).cells ({ frames := 0, cells := 0, slots := 0, locals := 0 } : Room).slots) := by
  refine MetFree.of_bodySF (plainFor_of_name pn5) hisR ?_
  intro p e s m args below meth c s₁ Bd hml0 hP hK
  obtain ⟨rfl, hZ, hh⟩ := hP
  have hown : s.vm.findClass "com/example/template_stripper/templatestripper/Region" = some m.cls := findClass_of_methodNamed Bd.named
  have e0 : s₁.heap = h0 := by rw [← hh, Bd.state]; rfl
  obtain ⟨s₂, v, L, h1, h2, h3, h4, h5⟩ := b5_0 (T := s₁) ⟨Stand.of_body Bd, Bd.exec, hZ, hw, Bd.bytes, hml0, hown, Bd.returns, BodyLoose.notSynchronized Bd, e0, Z0, Fr.nil n0⟩ ob oo ke kf je jf H1 H0 H3 H2
  exact ⟨s₂, .returned v, castTop (ef5 m ob oo) h1, h2, h3, v, L, rfl, h4, h5⟩
-- body 0
theorem pn0 : plainName "com/example/template_stripper/templatestripper/RegionOverlapsPinLaw" = true := by first | (simp [plainName, overriddenIn]; done) | decide +kernel
def f0_94 (si0 : Int32) (w1 : Int32) (w2 : Int32) (w3 : Int32) (w6 : Int32) (w7 : Int32) (w8 : Int32) : Int32 := (if (f5_0 w2 w3 w7 w8) = si0 then (if (f5_0 w7 w8 w2 w3) = si0 then (if (f5_0 w2 w3 w2 w3) = (0 : Int32) then (0 : Int32) else (1 : Int32)) else (0 : Int32)) else (0 : Int32))
def f0_0 (vi0 : Int32) (vi1 : Int32) (vi2 : Int32) (vi3 : Int32) : Int32 := (if vi0 = vi1 then (1 : Int32) else (if vi2 = vi3 then (1 : Int32) else (if (f2_0 (f1_0 vi0 vi1) (f1_0 vi2 vi3)) < (f1_0 (f2_0 vi0 vi1) (f2_0 vi2 vi3)) then (f0_94 (1 : Int32) (1 : Int32) (f2_0 vi0 vi1) (f1_0 vi0 vi1) (2 : Int32) (f2_0 vi2 vi3) (f1_0 vi2 vi3)) else (f0_94 (0 : Int32) (1 : Int32) (f2_0 vi0 vi1) (f1_0 vi0 vi1) (2 : Int32) (f2_0 vi2 vi3) (f1_0 vi2 vi3)))))
set_option maxRecDepth 65536 in
set_option maxHeartbeats 40000000 in
theorem b0_94 {p : Program} {l : Launch} {e : Env} {s : State} {vm0 : Vm} {k0 : Nat} {m : MethodId} {args : Array Value} {below : List Frame} {meth : Method} {c : Code} {T : State} {locs : List Loc} {Z : State} {a0 : Array Value} {h0 : Heap} {n0 : Nat} (cx : CxW room_1 code 11 "com/example/template_stripper/templatestripper/RegionOverlapsPinLaw" (some .boolean) p l e s vm0 k0 m args below meth c T locs 6 104 Z a0 h0 n0) (vi0 : Int32) (vi1 : Int32) (vi2 : Int32) (vi3 : Int32) (vi4 : Int32) (vi5 : Int32) (vi6 : Int32) (vi7 : Int32) (va8 : Addr) (va9 : Addr) (si0 : Int32) (o2 : Addr) (o3 : Addr) (w1 : Int32) (w2 : Int32) (w3 : Int32) (w6 : Int32) (w7 : Int32) (w8 : Int32) (Hf0 : Exa Z h0 va8 "com/example/template_stripper/templatestripper/Region") (Hf1 : Fld Z h0 va8 "com/example/template_stripper/templatestripper/Region" "depth" "I" (.int w1)) (Hf2 : Fld Z h0 va8 "com/example/template_stripper/templatestripper/Region" "endSegment" "I" (.int w2)) (Hf3 : Fld Z h0 va8 "com/example/template_stripper/templatestripper/Region" "firstSegment" "I" (.int w3)) (Hf4 : Fld Z h0 va8 "com/example/template_stripper/templatestripper/Region" "position" "Ljava/lang/String;" (.ref o2)) (Hf5 : Exa Z h0 va9 "com/example/template_stripper/templatestripper/Region") (Hf6 : Fld Z h0 va9 "com/example/template_stripper/templatestripper/Region" "depth" "I" (.int w6)) (Hf7 : Fld Z h0 va9 "com/example/template_stripper/templatestripper/Region" "endSegment" "I" (.int w7)) (Hf8 : Fld Z h0 va9 "com/example/template_stripper/templatestripper/Region" "firstSegment" "I" (.int w8)) (Hf9 : Fld Z h0 va9 "com/example/template_stripper/templatestripper/Region" "position" "Ljava/lang/String;" (.ref o3)) (lw0 : n0 ≤ va8) (lw1 : n0 ≤ va9) (ne0_1 : va8 ≠ va9) :
    RchW p e below s 16 2176 (T.setTop (mkF m 94 #[.val (.int vi0), .val (.int vi1), .val (.int vi2), .val (.int vi3), .val (.int vi4), .val (.int vi5), .val (.int vi6), .val (.int vi7), .val (.ref va8), .val (.ref va9), .unset] [(.int si0)])) (PL (f0_94 si0 w1 w2 w3 w6 w7 w8) n0) := by
  obtain ⟨⟨X0, hx, hZ, hw, hby, hml, hown, hret, hlk, e0, Z0, N0⟩, hS, hk⟩ := cx
  have hwS := own_wS hw
  unfold f0_94
  refine RchW.step (st' := T.setTop (mkF m 96 #[.val (.int vi0), .val (.int vi1), .val (.int vi2), .val (.int vi3), .val (.int vi4), .val (.int vi5), .val (.int vi6), .val (.int vi7), .val (.ref va8), .val (.ref va9), .val (.int si0)] [])) (fun _ hr => XS.istore X0.here hx rfl (hb hby at_94) rfl (l' := #[.val (.int vi0), .val (.int vi1), .val (.int vi2), .val (.int vi3), .val (.int vi4), .val (.int vi5), .val (.int vi6), .val (.int vi7), .val (.ref va8), .val (.ref va9), .val (.int si0)]) rfl hr) ?_
  refine RchW.step (st' := T.setTop (mkF m 98 #[.val (.int vi0), .val (.int vi1), .val (.int vi2), .val (.int vi3), .val (.int vi4), .val (.int vi5), .val (.int vi6), .val (.int vi7), .val (.ref va8), .val (.ref va9), .val (.int si0)] [(.ref va8)])) (fun _ hr => XS.aload X0.here hx rfl (hb hby at_96) rfl rfl hr) ?_
  refine RchW.step (st' := T.setTop (mkF m 100 #[.val (.int vi0), .val (.int vi1), .val (.int vi2), .val (.int vi3), .val (.int vi4), .val (.int vi5), .val (.int vi6), .val (.int vi7), .val (.ref va8), .val (.ref va9), .val (.int si0)] [(.ref va9), (.ref va8)])) (fun _ hr => XS.aload X0.here hx rfl (hb hby at_98) rfl rfl hr) ?_
  obtain ⟨cq1, kq1, q1a, q1b, q1c⟩ := isOf hZ e0 Hf0
  obtain ⟨_, _, ⟨T1, L1, k1, n1⟩, -, X1, ⟨Lc1, hQ1, l1, y1, z1⟩, st1⟩ := X0.virtualBack hx (y := (⟨"com/example/template_stripper/templatestripper/Region", "overlaps", "(Lcom/example/template_stripper/templatestripper/Region;)Z"⟩ : MethodName)) (z := (⟨"com/example/template_stripper/templatestripper/Region", "overlaps", "(Lcom/example/template_stripper/templatestripper/Region;)Z"⟩ : MethodName)) hown (mvT hZ (hw _ (List.mem_of_getElem? (i := 33) rfl))) (mvT hZ (hw _ (List.mem_of_getElem? (i := 34) rfl))) (notFace_of_selects (args := #[]) (mvT hZ (hw _ (List.mem_of_getElem? (i := 36) rfl)))) (mvT hZ (hw _ (List.mem_of_getElem? (i := 36) rfl))) (mvT hZ (hw _ (List.mem_of_getElem? (i := 35) rfl))) (by decide) (backOf (W := 0) (rm5 l Z a0 hw [] va8 va9 w3 w2 w8 w7 h0 n0 Z0 Hf3 Hf2 Hf8 Hf7) hZ (hw _ (List.mem_of_getElem? (i := 37) rfl)) (hw _ (List.mem_of_getElem? (i := 9) rfl)) (by decide) (by decide)) q1a q1c (g := (mkF m 100 #[.val (.int vi0), .val (.int vi1), .val (.int vi2), .val (.int vi3), .val (.int vi4), .val (.int vi5), .val (.int vi6), .val (.int vi7), .val (.ref va8), .val (.ref va9), .val (.int si0)] [(.ref va9), (.ref va8)])) rfl (by rw [hml]; rfl) (Steps.refl _) (argsL := [(.ref va9)]) (rest := []) (lenOf pd5 rfl) rfl (by show 2 * 0 + _ ≤ _; exact Nat.le_of_eq rfl) (hb hby at_100) (fun _ _ => ⟨rfl, e0, (by decide : 6 + 0 ≤ _), (by decide : 104 + 0 ≤ _)⟩)
  dsimp only [Pt.U, Pt.locs, Pt.cells, Pt.slots] at X1 l1 y1 z1 st1 hQ1
  subst l1 y1 z1
  obtain ⟨rfl, N1q, e1⟩ := hQ1
  have N1 := Fr.app N0 N1q
  refine RchW.step (st' := T1.setTop (mkF m 103 #[.val (.int vi0), .val (.int vi1), .val (.int vi2), .val (.int vi3), .val (.int vi4), .val (.int vi5), .val (.int vi6), .val (.int vi7), .val (.ref va8), .val (.ref va9), .val (.int si0)] [(.int (f5_0 w2 w3 w7 w8))])) (fun _ hr => st1.trans hr) ?_
  refine RchW.step (st' := T1.setTop (mkF m 105 #[.val (.int vi0), .val (.int vi1), .val (.int vi2), .val (.int vi3), .val (.int vi4), .val (.int vi5), .val (.int vi6), .val (.int vi7), .val (.ref va8), .val (.ref va9), .val (.int si0)] [(.int si0), (.int (f5_0 w2 w3 w7 w8))])) (fun _ hr => XS.iload X1.here hx rfl (hb hby at_103) rfl hr) ?_
  by_cases hc2 : (f5_0 w2 w3 w7 w8) = si0
  · rw [if_pos hc2]
    refine RchW.step (st' := T1.setTop (mkF m 108 #[.val (.int vi0), .val (.int vi1), .val (.int vi2), .val (.int vi3), .val (.int vi4), .val (.int vi5), .val (.int vi6), .val (.int vi7), .val (.ref va8), .val (.ref va9), .val (.int si0)] [])) (fun _ hr => XS.icmpNo X1.here hx rfl (hb hby at_105) rfl (teq hc2).2 hr) ?_
    refine RchW.step (st' := T1.setTop (mkF m 110 #[.val (.int vi0), .val (.int vi1), .val (.int vi2), .val (.int vi3), .val (.int vi4), .val (.int vi5), .val (.int vi6), .val (.int vi7), .val (.ref va8), .val (.ref va9), .val (.int si0)] [(.ref va9)])) (fun _ hr => XS.aload X1.here hx rfl (hb hby at_108) rfl rfl hr) ?_
    refine RchW.step (st' := T1.setTop (mkF m 112 #[.val (.int vi0), .val (.int vi1), .val (.int vi2), .val (.int vi3), .val (.int vi4), .val (.int vi5), .val (.int vi6), .val (.int vi7), .val (.ref va8), .val (.ref va9), .val (.int si0)] [(.ref va8), (.ref va9)])) (fun _ hr => XS.aload X1.here hx rfl (hb hby at_110) rfl rfl hr) ?_
    obtain ⟨cq3, kq3, q3a, q3b, q3c⟩ := isOf hZ e1 Hf5
    obtain ⟨_, _, ⟨T3, L3, k3, n3⟩, -, X3, ⟨Lc3, hQ3, l3, y3, z3⟩, st3⟩ := X1.virtualBack hx (y := (⟨"com/example/template_stripper/templatestripper/Region", "overlaps", "(Lcom/example/template_stripper/templatestripper/Region;)Z"⟩ : MethodName)) (z := (⟨"com/example/template_stripper/templatestripper/Region", "overlaps", "(Lcom/example/template_stripper/templatestripper/Region;)Z"⟩ : MethodName)) hown (mvT hZ (hw _ (List.mem_of_getElem? (i := 33) rfl))) (mvT hZ (hw _ (List.mem_of_getElem? (i := 34) rfl))) (notFace_of_selects (args := #[]) (mvT hZ (hw _ (List.mem_of_getElem? (i := 36) rfl)))) (mvT hZ (hw _ (List.mem_of_getElem? (i := 36) rfl))) (mvT hZ (hw _ (List.mem_of_getElem? (i := 35) rfl))) (by decide) (backOf (W := 0) (rm5 l Z a0 hw [] va9 va8 w8 w7 w3 w2 h0 n0 Z0 Hf8 Hf7 Hf3 Hf2) hZ (hw _ (List.mem_of_getElem? (i := 37) rfl)) (hw _ (List.mem_of_getElem? (i := 9) rfl)) (by decide) (by decide)) q3a q3c (g := (mkF m 112 #[.val (.int vi0), .val (.int vi1), .val (.int vi2), .val (.int vi3), .val (.int vi4), .val (.int vi5), .val (.int vi6), .val (.int vi7), .val (.ref va8), .val (.ref va9), .val (.int si0)] [(.ref va8), (.ref va9)])) rfl (by rw [hml]; rfl) (Steps.refl _) (argsL := [(.ref va8)]) (rest := []) (lenOf pd5 rfl) rfl (by show 2 * 0 + _ ≤ _; exact Nat.le_of_eq rfl) (hb hby at_112) (fun _ _ => ⟨rfl, e1, (by decide : 6 + 0 ≤ _), (by decide : 104 + 0 ≤ _)⟩)
    dsimp only [Pt.U, Pt.locs, Pt.cells, Pt.slots] at X3 l3 y3 z3 st3 hQ3
    subst l3 y3 z3
    obtain ⟨rfl, N3q, e3⟩ := hQ3
    have N3 := Fr.app N1 N3q
    refine RchW.step (st' := T3.setTop (mkF m 115 #[.val (.int vi0), .val (.int vi1), .val (.int vi2), .val (.int vi3), .val (.int vi4), .val (.int vi5), .val (.int vi6), .val (.int vi7), .val (.ref va8), .val (.ref va9), .val (.int si0)] [(.int (f5_0 w7 w8 w2 w3))])) (fun _ hr => st3.trans hr) ?_
    refine RchW.step (st' := T3.setTop (mkF m 117 #[.val (.int vi0), .val (.int vi1), .val (.int vi2), .val (.int vi3), .val (.int vi4), .val (.int vi5), .val (.int vi6), .val (.int vi7), .val (.ref va8), .val (.ref va9), .val (.int si0)] [(.int si0), (.int (f5_0 w7 w8 w2 w3))])) (fun _ hr => XS.iload X3.here hx rfl (hb hby at_115) rfl hr) ?_
    by_cases hc4 : (f5_0 w7 w8 w2 w3) = si0
    · rw [if_pos hc4]
      refine RchW.step (st' := T3.setTop (mkF m 120 #[.val (.int vi0), .val (.int vi1), .val (.int vi2), .val (.int vi3), .val (.int vi4), .val (.int vi5), .val (.int vi6), .val (.int vi7), .val (.ref va8), .val (.ref va9), .val (.int si0)] [])) (fun _ hr => XS.icmpNo X3.here hx rfl (hb hby at_117) rfl (teq hc4).2 hr) ?_
      refine RchW.step (st' := T3.setTop (mkF m 122 #[.val (.int vi0), .val (.int vi1), .val (.int vi2), .val (.int vi3), .val (.int vi4), .val (.int vi5), .val (.int vi6), .val (.int vi7), .val (.ref va8), .val (.ref va9), .val (.int si0)] [(.ref va8)])) (fun _ hr => XS.aload X3.here hx rfl (hb hby at_120) rfl rfl hr) ?_
      refine RchW.step (st' := T3.setTop (mkF m 124 #[.val (.int vi0), .val (.int vi1), .val (.int vi2), .val (.int vi3), .val (.int vi4), .val (.int vi5), .val (.int vi6), .val (.int vi7), .val (.ref va8), .val (.ref va9), .val (.int si0)] [(.ref va8), (.ref va8)])) (fun _ hr => XS.aload X3.here hx rfl (hb hby at_122) rfl rfl hr) ?_
      obtain ⟨cq5, kq5, q5a, q5b, q5c⟩ := isOf hZ e3 Hf0
      obtain ⟨_, _, ⟨T5, L5, k5, n5⟩, -, X5, ⟨Lc5, hQ5, l5, y5, z5⟩, st5⟩ := X3.virtualBack hx (y := (⟨"com/example/template_stripper/templatestripper/Region", "overlaps", "(Lcom/example/template_stripper/templatestripper/Region;)Z"⟩ : MethodName)) (z := (⟨"com/example/template_stripper/templatestripper/Region", "overlaps", "(Lcom/example/template_stripper/templatestripper/Region;)Z"⟩ : MethodName)) hown (mvT hZ (hw _ (List.mem_of_getElem? (i := 33) rfl))) (mvT hZ (hw _ (List.mem_of_getElem? (i := 34) rfl))) (notFace_of_selects (args := #[]) (mvT hZ (hw _ (List.mem_of_getElem? (i := 36) rfl)))) (mvT hZ (hw _ (List.mem_of_getElem? (i := 36) rfl))) (mvT hZ (hw _ (List.mem_of_getElem? (i := 35) rfl))) (by decide) (backOf (W := 0) (rm5 l Z a0 hw [] va8 va8 w3 w2 w3 w2 h0 n0 Z0 Hf3 Hf2 Hf3 Hf2) hZ (hw _ (List.mem_of_getElem? (i := 37) rfl)) (hw _ (List.mem_of_getElem? (i := 9) rfl)) (by decide) (by decide)) q5a q5c (g := (mkF m 124 #[.val (.int vi0), .val (.int vi1), .val (.int vi2), .val (.int vi3), .val (.int vi4), .val (.int vi5), .val (.int vi6), .val (.int vi7), .val (.ref va8), .val (.ref va9), .val (.int si0)] [(.ref va8), (.ref va8)])) rfl (by rw [hml]; rfl) (Steps.refl _) (argsL := [(.ref va8)]) (rest := []) (lenOf pd5 rfl) rfl (by show 2 * 0 + _ ≤ _; exact Nat.le_of_eq rfl) (hb hby at_124) (fun _ _ => ⟨rfl, e3, (by decide : 6 + 0 ≤ _), (by decide : 104 + 0 ≤ _)⟩)
      dsimp only [Pt.U, Pt.locs, Pt.cells, Pt.slots] at X5 l5 y5 z5 st5 hQ5
      subst l5 y5 z5
      obtain ⟨rfl, N5q, e5⟩ := hQ5
      have N5 := Fr.app N3 N5q
      refine RchW.step (st' := T5.setTop (mkF m 127 #[.val (.int vi0), .val (.int vi1), .val (.int vi2), .val (.int vi3), .val (.int vi4), .val (.int vi5), .val (.int vi6), .val (.int vi7), .val (.ref va8), .val (.ref va9), .val (.int si0)] [(.int (f5_0 w2 w3 w2 w3))])) (fun _ hr => st5.trans hr) ?_
      by_cases hc6 : (f5_0 w2 w3 w2 w3) = (0 : Int32)
      · rw [if_pos hc6]
        refine RchW.step (st' := T5.setTop (mkF m 134 #[.val (.int vi0), .val (.int vi1), .val (.int vi2), .val (.int vi3), .val (.int vi4), .val (.int vi5), .val (.int vi6), .val (.int vi7), .val (.ref va8), .val (.ref va9), .val (.int si0)] [])) (fun _ hr => XS.ifYes X5.here hx rfl (pc0 := 127) (pc' := 134) rfl (hb hby at_127) rfl ((if0 _ _).trans (teq hc6).1) (by decide) (by decide) hr) ?_
        refine RchW.step (st' := T5.setTop (mkF m 135 #[.val (.int vi0), .val (.int vi1), .val (.int vi2), .val (.int vi3), .val (.int vi4), .val (.int vi5), .val (.int vi6), .val (.int vi7), .val (.ref va8), .val (.ref va9), .val (.int si0)] [(.int (0 : Int32))])) (fun _ hr => XS.iconst X5.here hx rfl (hb hby at_134) hr) ?_
        exact RchW.retN X5 hS e5 hk hx (t := .boolean) hret hlk (by simp) (hb hby at_135) (by decide) (by decide) ⟨rfl, N5⟩
      · rw [if_neg hc6]
        refine RchW.step (st' := T5.setTop (mkF m 130 #[.val (.int vi0), .val (.int vi1), .val (.int vi2), .val (.int vi3), .val (.int vi4), .val (.int vi5), .val (.int vi6), .val (.int vi7), .val (.ref va8), .val (.ref va9), .val (.int si0)] [])) (fun _ hr => XS.ifNo X5.here hx rfl (hb hby at_127) rfl ((if0 _ _).trans (feq hc6).1) hr) ?_
        refine RchW.step (st' := T5.setTop (mkF m 131 #[.val (.int vi0), .val (.int vi1), .val (.int vi2), .val (.int vi3), .val (.int vi4), .val (.int vi5), .val (.int vi6), .val (.int vi7), .val (.ref va8), .val (.ref va9), .val (.int si0)] [(.int (1 : Int32))])) (fun _ hr => XS.iconst X5.here hx rfl (hb hby at_130) hr) ?_
        refine RchW.step (st' := T5.setTop (mkF m 135 #[.val (.int vi0), .val (.int vi1), .val (.int vi2), .val (.int vi3), .val (.int vi4), .val (.int vi5), .val (.int vi6), .val (.int vi7), .val (.ref va8), .val (.ref va9), .val (.int si0)] [(.int (1 : Int32))])) (fun _ hr => XS.goto X5.here hx rfl (pc0 := 131) (pc' := 135) rfl (hb hby at_131) (by decide) (by decide) hr) ?_
        exact RchW.retN X5 hS e5 hk hx (t := .boolean) hret hlk (by simp) (hb hby at_135) (by decide) (by decide) ⟨rfl, N5⟩
    · rw [if_neg hc4]
      refine RchW.step (st' := T3.setTop (mkF m 134 #[.val (.int vi0), .val (.int vi1), .val (.int vi2), .val (.int vi3), .val (.int vi4), .val (.int vi5), .val (.int vi6), .val (.int vi7), .val (.ref va8), .val (.ref va9), .val (.int si0)] [])) (fun _ hr => XS.icmpYes X3.here hx rfl (pc0 := 117) (pc' := 134) rfl (hb hby at_117) rfl (feq hc4).2 (by decide) (by decide) hr) ?_
      refine RchW.step (st' := T3.setTop (mkF m 135 #[.val (.int vi0), .val (.int vi1), .val (.int vi2), .val (.int vi3), .val (.int vi4), .val (.int vi5), .val (.int vi6), .val (.int vi7), .val (.ref va8), .val (.ref va9), .val (.int si0)] [(.int (0 : Int32))])) (fun _ hr => XS.iconst X3.here hx rfl (hb hby at_134) hr) ?_
      exact RchW.retN X3 hS e3 hk hx (t := .boolean) hret hlk (by simp) (hb hby at_135) (by decide) (by decide) ⟨rfl, N3⟩
  · rw [if_neg hc2]
    refine RchW.step (st' := T1.setTop (mkF m 134 #[.val (.int vi0), .val (.int vi1), .val (.int vi2), .val (.int vi3), .val (.int vi4), .val (.int vi5), .val (.int vi6), .val (.int vi7), .val (.ref va8), .val (.ref va9), .val (.int si0)] [])) (fun _ hr => XS.icmpYes X1.here hx rfl (pc0 := 105) (pc' := 134) rfl (hb hby at_105) rfl (feq hc2).2 (by decide) (by decide) hr) ?_
    refine RchW.step (st' := T1.setTop (mkF m 135 #[.val (.int vi0), .val (.int vi1), .val (.int vi2), .val (.int vi3), .val (.int vi4), .val (.int vi5), .val (.int vi6), .val (.int vi7), .val (.ref va8), .val (.ref va9), .val (.int si0)] [(.int (0 : Int32))])) (fun _ hr => XS.iconst X1.here hx rfl (hb hby at_134) hr) ?_
    exact RchW.retN X1 hS e1 hk hx (t := .boolean) hret hlk (by simp) (hb hby at_135) (by decide) (by decide) ⟨rfl, N1⟩
set_option maxRecDepth 65536 in
set_option maxHeartbeats 40000000 in
theorem b0_0 {p : Program} {l : Launch} {e : Env} {s : State} {vm0 : Vm} {k0 : Nat} {m : MethodId} {args : Array Value} {below : List Frame} {meth : Method} {c : Code} {T : State} {locs : List Loc} {Z : State} {a0 : Array Value} {h0 : Heap} {n0 : Nat} (cx : CxW room_1 code 11 "com/example/template_stripper/templatestripper/RegionOverlapsPinLaw" (some .boolean) p l e s vm0 k0 m args below meth c T locs 0 0 Z a0 h0 n0) (vi0 : Int32) (vi1 : Int32) (vi2 : Int32) (vi3 : Int32) :
    RchW p e below s 16 2176 (T.setTop (mkF m 0 #[.val (.int vi0), .val (.int vi1), .val (.int vi2), .val (.int vi3), .unset, .unset, .unset, .unset, .unset, .unset, .unset] [])) (PL (f0_0 vi0 vi1 vi2 vi3) n0) := by
  obtain ⟨⟨X0, hx, hZ, hw, hby, hml, hown, hret, hlk, e0, Z0, N0⟩, hS, hk⟩ := cx
  have hwS := own_wS hw
  unfold f0_0
  refine RchW.step (st' := T.setTop (mkF m 1 #[.val (.int vi0), .val (.int vi1), .val (.int vi2), .val (.int vi3), .unset, .unset, .unset, .unset, .unset, .unset, .unset] [(.int vi0)])) (fun _ hr => XS.iloadN X0.here hx rfl (hb hby at_0) rfl hr) ?_
  refine RchW.step (st' := T.setTop (mkF m 2 #[.val (.int vi0), .val (.int vi1), .val (.int vi2), .val (.int vi3), .unset, .unset, .unset, .unset, .unset, .unset, .unset] [(.int vi1), (.int vi0)])) (fun _ hr => XS.iloadN X0.here hx rfl (hb hby at_1) rfl hr) ?_
  by_cases hc1 : vi0 = vi1
  · rw [if_pos hc1]
    refine RchW.step (st' := T.setTop (mkF m 10 #[.val (.int vi0), .val (.int vi1), .val (.int vi2), .val (.int vi3), .unset, .unset, .unset, .unset, .unset, .unset, .unset] [])) (fun _ hr => XS.icmpYes X0.here hx rfl (pc0 := 2) (pc' := 10) rfl (hb hby at_2) rfl (teq hc1).1 (by decide) (by decide) hr) ?_
    refine RchW.step (st' := T.setTop (mkF m 11 #[.val (.int vi0), .val (.int vi1), .val (.int vi2), .val (.int vi3), .unset, .unset, .unset, .unset, .unset, .unset, .unset] [(.int (1 : Int32))])) (fun _ hr => XS.iconst X0.here hx rfl (hb hby at_10) hr) ?_
    exact RchW.retN X0 hS e0 hk hx (t := .boolean) hret hlk (by simp) (hb hby at_11) (by decide) (by decide) ⟨rfl, N0⟩
  · rw [if_neg hc1]
    refine RchW.step (st' := T.setTop (mkF m 5 #[.val (.int vi0), .val (.int vi1), .val (.int vi2), .val (.int vi3), .unset, .unset, .unset, .unset, .unset, .unset, .unset] [])) (fun _ hr => XS.icmpNo X0.here hx rfl (hb hby at_2) rfl (feq hc1).1 hr) ?_
    refine RchW.step (st' := T.setTop (mkF m 6 #[.val (.int vi0), .val (.int vi1), .val (.int vi2), .val (.int vi3), .unset, .unset, .unset, .unset, .unset, .unset, .unset] [(.int vi2)])) (fun _ hr => XS.iloadN X0.here hx rfl (hb hby at_5) rfl hr) ?_
    refine RchW.step (st' := T.setTop (mkF m 7 #[.val (.int vi0), .val (.int vi1), .val (.int vi2), .val (.int vi3), .unset, .unset, .unset, .unset, .unset, .unset, .unset] [(.int vi3), (.int vi2)])) (fun _ hr => XS.iloadN X0.here hx rfl (hb hby at_6) rfl hr) ?_
    by_cases hc2 : vi2 = vi3
    · rw [if_pos hc2]
      refine RchW.step (st' := T.setTop (mkF m 10 #[.val (.int vi0), .val (.int vi1), .val (.int vi2), .val (.int vi3), .unset, .unset, .unset, .unset, .unset, .unset, .unset] [])) (fun _ hr => XS.icmpNo X0.here hx rfl (hb hby at_7) rfl (teq hc2).2 hr) ?_
      refine RchW.step (st' := T.setTop (mkF m 11 #[.val (.int vi0), .val (.int vi1), .val (.int vi2), .val (.int vi3), .unset, .unset, .unset, .unset, .unset, .unset, .unset] [(.int (1 : Int32))])) (fun _ hr => XS.iconst X0.here hx rfl (hb hby at_10) hr) ?_
      exact RchW.retN X0 hS e0 hk hx (t := .boolean) hret hlk (by simp) (hb hby at_11) (by decide) (by decide) ⟨rfl, N0⟩
    · rw [if_neg hc2]
      refine RchW.step (st' := T.setTop (mkF m 12 #[.val (.int vi0), .val (.int vi1), .val (.int vi2), .val (.int vi3), .unset, .unset, .unset, .unset, .unset, .unset, .unset] [])) (fun _ hr => XS.icmpYes X0.here hx rfl (pc0 := 7) (pc' := 12) rfl (hb hby at_7) rfl (feq hc2).2 (by decide) (by decide) hr) ?_
      refine RchW.step (st' := T.setTop (mkF m 13 #[.val (.int vi0), .val (.int vi1), .val (.int vi2), .val (.int vi3), .unset, .unset, .unset, .unset, .unset, .unset, .unset] [(.int vi0)])) (fun _ hr => XS.iloadN X0.here hx rfl (hb hby at_12) rfl hr) ?_
      refine RchW.step (st' := T.setTop (mkF m 14 #[.val (.int vi0), .val (.int vi1), .val (.int vi2), .val (.int vi3), .unset, .unset, .unset, .unset, .unset, .unset, .unset] [(.int vi1), (.int vi0)])) (fun _ hr => XS.iloadN X0.here hx rfl (hb hby at_13) rfl hr) ?_
      obtain ⟨_, _, ⟨T3, L3, k3, n3⟩, -, X3, ⟨Lc3, hQ3, l3, y3, z3⟩, st3⟩ := Jvm.LawKit.callS X0 hx (y := (⟨"java/lang/Math", "min", "(II)I"⟩ : MethodName)) hown (mvT hZ (hw _ (List.mem_of_getElem? (i := 0) rfl))) (mvT hZ (hw _ (List.mem_of_getElem? (i := 1) rfl))) (mvT hZ (hw _ (List.mem_of_getElem? (i := 2) rfl))) (mvT hZ (hw _ (List.mem_of_getElem? (i := 3) rfl))) (by decide) (backOf (W := 0) (rm1 l Z a0 hw [] vi0 vi1 h0 n0 Z0) hZ (hw _ (List.mem_of_getElem? (i := 3) rfl)) (hw _ (List.mem_of_getElem? (i := 2) rfl)) (by decide) (by decide)) (g := (mkF m 14 #[.val (.int vi0), .val (.int vi1), .val (.int vi2), .val (.int vi3), .unset, .unset, .unset, .unset, .unset, .unset, .unset] [(.int vi1), (.int vi0)])) rfl (by rw [hml]; rfl) (argsL := [(.int vi0), (.int vi1)]) (rest := []) (lenOf pd1 rfl) rfl (by show 2 * 0 + _ ≤ _; exact Nat.le_of_eq rfl) (hb hby at_14) (fun _ _ => ⟨rfl, e0, (by decide : 0 + 0 ≤ _), (by decide : 0 + 0 ≤ _)⟩)
      dsimp only [Pt.U, Pt.locs, Pt.cells, Pt.slots] at X3 l3 y3 z3 st3 hQ3
      subst l3 y3 z3
      obtain ⟨rfl, N3q, e3⟩ := hQ3
      have N3 := Fr.app N0 N3q
      refine RchW.step (st' := T3.setTop (mkF m 17 #[.val (.int vi0), .val (.int vi1), .val (.int vi2), .val (.int vi3), .unset, .unset, .unset, .unset, .unset, .unset, .unset] [(.int (f1_0 vi0 vi1))])) (fun _ hr => st3 _ hr) ?_
      refine RchW.step (st' := T3.setTop (mkF m 19 #[.val (.int vi0), .val (.int vi1), .val (.int vi2), .val (.int vi3), .val (.int (f1_0 vi0 vi1)), .unset, .unset, .unset, .unset, .unset, .unset] [])) (fun _ hr => XS.istore X3.here hx rfl (hb hby at_17) rfl (l' := #[.val (.int vi0), .val (.int vi1), .val (.int vi2), .val (.int vi3), .val (.int (f1_0 vi0 vi1)), .unset, .unset, .unset, .unset, .unset, .unset]) rfl hr) ?_
      refine RchW.step (st' := T3.setTop (mkF m 20 #[.val (.int vi0), .val (.int vi1), .val (.int vi2), .val (.int vi3), .val (.int (f1_0 vi0 vi1)), .unset, .unset, .unset, .unset, .unset, .unset] [(.int vi0)])) (fun _ hr => XS.iloadN X3.here hx rfl (hb hby at_19) rfl hr) ?_
      refine RchW.step (st' := T3.setTop (mkF m 21 #[.val (.int vi0), .val (.int vi1), .val (.int vi2), .val (.int vi3), .val (.int (f1_0 vi0 vi1)), .unset, .unset, .unset, .unset, .unset, .unset] [(.int vi1), (.int vi0)])) (fun _ hr => XS.iloadN X3.here hx rfl (hb hby at_20) rfl hr) ?_
      obtain ⟨_, _, ⟨T4, L4, k4, n4⟩, -, X4, ⟨Lc4, hQ4, l4, y4, z4⟩, st4⟩ := Jvm.LawKit.callS X3 hx (y := (⟨"java/lang/Math", "max", "(II)I"⟩ : MethodName)) hown (mvT hZ (hw _ (List.mem_of_getElem? (i := 4) rfl))) (mvT hZ (hw _ (List.mem_of_getElem? (i := 5) rfl))) (mvT hZ (hw _ (List.mem_of_getElem? (i := 2) rfl))) (mvT hZ (hw _ (List.mem_of_getElem? (i := 6) rfl))) (by decide) (backOf (W := 0) (rm2 l Z a0 hw [] vi0 vi1 h0 n0 Z0) hZ (hw _ (List.mem_of_getElem? (i := 6) rfl)) (hw _ (List.mem_of_getElem? (i := 2) rfl)) (by decide) (by decide)) (g := (mkF m 21 #[.val (.int vi0), .val (.int vi1), .val (.int vi2), .val (.int vi3), .val (.int (f1_0 vi0 vi1)), .unset, .unset, .unset, .unset, .unset, .unset] [(.int vi1), (.int vi0)])) rfl (by rw [hml]; rfl) (argsL := [(.int vi0), (.int vi1)]) (rest := []) (lenOf pd2 rfl) rfl (by show 2 * 0 + _ ≤ _; exact Nat.le_of_eq rfl) (hb hby at_21) (fun _ _ => ⟨rfl, e3, (by decide : 0 + 0 ≤ _), (by decide : 0 + 0 ≤ _)⟩)
      dsimp only [Pt.U, Pt.locs, Pt.cells, Pt.slots] at X4 l4 y4 z4 st4 hQ4
      subst l4 y4 z4
      obtain ⟨rfl, N4q, e4⟩ := hQ4
      have N4 := Fr.app N3 N4q
      refine RchW.step (st' := T4.setTop (mkF m 24 #[.val (.int vi0), .val (.int vi1), .val (.int vi2), .val (.int vi3), .val (.int (f1_0 vi0 vi1)), .unset, .unset, .unset, .unset, .unset, .unset] [(.int (f2_0 vi0 vi1))])) (fun _ hr => st4 _ hr) ?_
      refine RchW.step (st' := T4.setTop (mkF m 26 #[.val (.int vi0), .val (.int vi1), .val (.int vi2), .val (.int vi3), .val (.int (f1_0 vi0 vi1)), .val (.int (f2_0 vi0 vi1)), .unset, .unset, .unset, .unset, .unset] [])) (fun _ hr => XS.istore X4.here hx rfl (hb hby at_24) rfl (l' := #[.val (.int vi0), .val (.int vi1), .val (.int vi2), .val (.int vi3), .val (.int (f1_0 vi0 vi1)), .val (.int (f2_0 vi0 vi1)), .unset, .unset, .unset, .unset, .unset]) rfl hr) ?_
      refine RchW.step (st' := T4.setTop (mkF m 27 #[.val (.int vi0), .val (.int vi1), .val (.int vi2), .val (.int vi3), .val (.int (f1_0 vi0 vi1)), .val (.int (f2_0 vi0 vi1)), .unset, .unset, .unset, .unset, .unset] [(.int vi2)])) (fun _ hr => XS.iloadN X4.here hx rfl (hb hby at_26) rfl hr) ?_
      refine RchW.step (st' := T4.setTop (mkF m 28 #[.val (.int vi0), .val (.int vi1), .val (.int vi2), .val (.int vi3), .val (.int (f1_0 vi0 vi1)), .val (.int (f2_0 vi0 vi1)), .unset, .unset, .unset, .unset, .unset] [(.int vi3), (.int vi2)])) (fun _ hr => XS.iloadN X4.here hx rfl (hb hby at_27) rfl hr) ?_
      obtain ⟨_, _, ⟨T5, L5, k5, n5⟩, -, X5, ⟨Lc5, hQ5, l5, y5, z5⟩, st5⟩ := Jvm.LawKit.callS X4 hx (y := (⟨"java/lang/Math", "min", "(II)I"⟩ : MethodName)) hown (mvT hZ (hw _ (List.mem_of_getElem? (i := 0) rfl))) (mvT hZ (hw _ (List.mem_of_getElem? (i := 1) rfl))) (mvT hZ (hw _ (List.mem_of_getElem? (i := 2) rfl))) (mvT hZ (hw _ (List.mem_of_getElem? (i := 3) rfl))) (by decide) (backOf (W := 0) (rm1 l Z a0 hw [] vi2 vi3 h0 n0 Z0) hZ (hw _ (List.mem_of_getElem? (i := 3) rfl)) (hw _ (List.mem_of_getElem? (i := 2) rfl)) (by decide) (by decide)) (g := (mkF m 28 #[.val (.int vi0), .val (.int vi1), .val (.int vi2), .val (.int vi3), .val (.int (f1_0 vi0 vi1)), .val (.int (f2_0 vi0 vi1)), .unset, .unset, .unset, .unset, .unset] [(.int vi3), (.int vi2)])) rfl (by rw [hml]; rfl) (argsL := [(.int vi2), (.int vi3)]) (rest := []) (lenOf pd1 rfl) rfl (by show 2 * 0 + _ ≤ _; exact Nat.le_of_eq rfl) (hb hby at_28) (fun _ _ => ⟨rfl, e4, (by decide : 0 + 0 ≤ _), (by decide : 0 + 0 ≤ _)⟩)
      dsimp only [Pt.U, Pt.locs, Pt.cells, Pt.slots] at X5 l5 y5 z5 st5 hQ5
      subst l5 y5 z5
      obtain ⟨rfl, N5q, e5⟩ := hQ5
      have N5 := Fr.app N4 N5q
      refine RchW.step (st' := T5.setTop (mkF m 31 #[.val (.int vi0), .val (.int vi1), .val (.int vi2), .val (.int vi3), .val (.int (f1_0 vi0 vi1)), .val (.int (f2_0 vi0 vi1)), .unset, .unset, .unset, .unset, .unset] [(.int (f1_0 vi2 vi3))])) (fun _ hr => st5 _ hr) ?_
      refine RchW.step (st' := T5.setTop (mkF m 33 #[.val (.int vi0), .val (.int vi1), .val (.int vi2), .val (.int vi3), .val (.int (f1_0 vi0 vi1)), .val (.int (f2_0 vi0 vi1)), .val (.int (f1_0 vi2 vi3)), .unset, .unset, .unset, .unset] [])) (fun _ hr => XS.istore X5.here hx rfl (hb hby at_31) rfl (l' := #[.val (.int vi0), .val (.int vi1), .val (.int vi2), .val (.int vi3), .val (.int (f1_0 vi0 vi1)), .val (.int (f2_0 vi0 vi1)), .val (.int (f1_0 vi2 vi3)), .unset, .unset, .unset, .unset]) rfl hr) ?_
      refine RchW.step (st' := T5.setTop (mkF m 34 #[.val (.int vi0), .val (.int vi1), .val (.int vi2), .val (.int vi3), .val (.int (f1_0 vi0 vi1)), .val (.int (f2_0 vi0 vi1)), .val (.int (f1_0 vi2 vi3)), .unset, .unset, .unset, .unset] [(.int vi2)])) (fun _ hr => XS.iloadN X5.here hx rfl (hb hby at_33) rfl hr) ?_
      refine RchW.step (st' := T5.setTop (mkF m 35 #[.val (.int vi0), .val (.int vi1), .val (.int vi2), .val (.int vi3), .val (.int (f1_0 vi0 vi1)), .val (.int (f2_0 vi0 vi1)), .val (.int (f1_0 vi2 vi3)), .unset, .unset, .unset, .unset] [(.int vi3), (.int vi2)])) (fun _ hr => XS.iloadN X5.here hx rfl (hb hby at_34) rfl hr) ?_
      obtain ⟨_, _, ⟨T6, L6, k6, n6⟩, -, X6, ⟨Lc6, hQ6, l6, y6, z6⟩, st6⟩ := Jvm.LawKit.callS X5 hx (y := (⟨"java/lang/Math", "max", "(II)I"⟩ : MethodName)) hown (mvT hZ (hw _ (List.mem_of_getElem? (i := 4) rfl))) (mvT hZ (hw _ (List.mem_of_getElem? (i := 5) rfl))) (mvT hZ (hw _ (List.mem_of_getElem? (i := 2) rfl))) (mvT hZ (hw _ (List.mem_of_getElem? (i := 6) rfl))) (by decide) (backOf (W := 0) (rm2 l Z a0 hw [] vi2 vi3 h0 n0 Z0) hZ (hw _ (List.mem_of_getElem? (i := 6) rfl)) (hw _ (List.mem_of_getElem? (i := 2) rfl)) (by decide) (by decide)) (g := (mkF m 35 #[.val (.int vi0), .val (.int vi1), .val (.int vi2), .val (.int vi3), .val (.int (f1_0 vi0 vi1)), .val (.int (f2_0 vi0 vi1)), .val (.int (f1_0 vi2 vi3)), .unset, .unset, .unset, .unset] [(.int vi3), (.int vi2)])) rfl (by rw [hml]; rfl) (argsL := [(.int vi2), (.int vi3)]) (rest := []) (lenOf pd2 rfl) rfl (by show 2 * 0 + _ ≤ _; exact Nat.le_of_eq rfl) (hb hby at_35) (fun _ _ => ⟨rfl, e5, (by decide : 0 + 0 ≤ _), (by decide : 0 + 0 ≤ _)⟩)
      dsimp only [Pt.U, Pt.locs, Pt.cells, Pt.slots] at X6 l6 y6 z6 st6 hQ6
      subst l6 y6 z6
      obtain ⟨rfl, N6q, e6⟩ := hQ6
      have N6 := Fr.app N5 N6q
      refine RchW.step (st' := T6.setTop (mkF m 38 #[.val (.int vi0), .val (.int vi1), .val (.int vi2), .val (.int vi3), .val (.int (f1_0 vi0 vi1)), .val (.int (f2_0 vi0 vi1)), .val (.int (f1_0 vi2 vi3)), .unset, .unset, .unset, .unset] [(.int (f2_0 vi2 vi3))])) (fun _ hr => st6 _ hr) ?_
      refine RchW.step (st' := T6.setTop (mkF m 40 #[.val (.int vi0), .val (.int vi1), .val (.int vi2), .val (.int vi3), .val (.int (f1_0 vi0 vi1)), .val (.int (f2_0 vi0 vi1)), .val (.int (f1_0 vi2 vi3)), .val (.int (f2_0 vi2 vi3)), .unset, .unset, .unset] [])) (fun _ hr => XS.istore X6.here hx rfl (hb hby at_38) rfl (l' := #[.val (.int vi0), .val (.int vi1), .val (.int vi2), .val (.int vi3), .val (.int (f1_0 vi0 vi1)), .val (.int (f2_0 vi0 vi1)), .val (.int (f1_0 vi2 vi3)), .val (.int (f2_0 vi2 vi3)), .unset, .unset, .unset]) rfl hr) ?_
      obtain ⟨T7, h7, X7, e7, E7, A7, D7, -, st7⟩ := newO X6 hx hZ hown (hw _ (List.mem_of_getElem? (i := 7) rfl)) (hw _ (List.mem_of_getElem? (i := 8) rfl)) (hw _ (List.mem_of_getElem? (i := 9) rfl)) e6 (g := (mkF m 40 #[.val (.int vi0), .val (.int vi1), .val (.int vi2), .val (.int vi3), .val (.int (f1_0 vi0 vi1)), .val (.int (f2_0 vi0 vi1)), .val (.int (f1_0 vi2 vi3)), .val (.int (f2_0 vi2 vi3)), .unset, .unset, .unset] [])) rfl (hb hby at_40) (by decide) (by decide)
      obtain ⟨b7, g7⟩ : ∃ z, z = h0.size := ⟨_, rfl⟩
      rw [← g7] at A7 D7 st7
      have low_b7 : n0 ≤ b7 := Nat.le_trans Z0 (Nat.le_of_eq g7.symm)
      have Z7 : n0 ≤ h7.size := Nat.le_trans Z0 E7.1
      have Fposition_b7 : Fld Z h7 b7 "com/example/template_stripper/templatestripper/Region" "position" "Ljava/lang/String;" .null := D7 (Or.inr (hw _ (List.mem_of_getElem? (i := 25) rfl))) (ty := (.object "java/lang/String")) (by decide)
      have FfirstSegment_b7 : Fld Z h7 b7 "com/example/template_stripper/templatestripper/Region" "firstSegment" "I" (.int (0 : Int32)) := D7 (Or.inr (hw _ (List.mem_of_getElem? (i := 27) rfl))) (ty := .int) (by decide)
      have FendSegment_b7 : Fld Z h7 b7 "com/example/template_stripper/templatestripper/Region" "endSegment" "I" (.int (0 : Int32)) := D7 (Or.inr (hw _ (List.mem_of_getElem? (i := 29) rfl))) (ty := .int) (by decide)
      have Fdepth_b7 : Fld Z h7 b7 "com/example/template_stripper/templatestripper/Region" "depth" "I" (.int (0 : Int32)) := D7 (Or.inr (hw _ (List.mem_of_getElem? (i := 31) rfl))) (ty := .int) (by decide)
      refine RchW.step (st' := T7.setTop (mkF m 43 #[.val (.int vi0), .val (.int vi1), .val (.int vi2), .val (.int vi3), .val (.int (f1_0 vi0 vi1)), .val (.int (f2_0 vi0 vi1)), .val (.int (f1_0 vi2 vi3)), .val (.int (f2_0 vi2 vi3)), .unset, .unset, .unset] [(.ref b7)])) (fun _ hr => st7 _ hr) ?_
      refine RchW.step (st' := T7.setTop (mkF m 44 #[.val (.int vi0), .val (.int vi1), .val (.int vi2), .val (.int vi3), .val (.int (f1_0 vi0 vi1)), .val (.int (f2_0 vi0 vi1)), .val (.int (f1_0 vi2 vi3)), .val (.int (f2_0 vi2 vi3)), .unset, .unset, .unset] [(.ref b7), (.ref b7)])) (fun _ hr => XS.dup X7.here hx rfl (hb hby at_43) rfl rfl hr) ?_
      obtain ⟨b8, T8, h8, k8, X8, e8, E8, hS, hk8, hZ, hown, st8⟩ := ldcS X7 hx hZ hown (hw _ (List.mem_of_getElem? (i := 10) rfl)) hwS e7 hS (Nat.le_trans hk E7.1) (g := (mkF m 44 #[.val (.int vi0), .val (.int vi1), .val (.int vi2), .val (.int vi3), .val (.int (f1_0 vi0 vi1)), .val (.int (f2_0 vi0 vi1)), .val (.int (f1_0 vi2 vi3)), .val (.int (f2_0 vi2 vi3)), .unset, .unset, .unset] [(.ref b7), (.ref b7)])) rfl (hb hby at_44) (n := 28) (by decide) (by decide) (by decide) (by decide)
      have E_b7_8 : Exa Z h8 b7 "com/example/template_stripper/templatestripper/Region" := A7.ext E8
      have Fposition_b7_8 : Fld Z h8 b7 "com/example/template_stripper/templatestripper/Region" "position" "Ljava/lang/String;" .null := Fposition_b7.ext E8
      have FfirstSegment_b7_8 : Fld Z h8 b7 "com/example/template_stripper/templatestripper/Region" "firstSegment" "I" (.int (0 : Int32)) := FfirstSegment_b7.ext E8
      have FendSegment_b7_8 : Fld Z h8 b7 "com/example/template_stripper/templatestripper/Region" "endSegment" "I" (.int (0 : Int32)) := FendSegment_b7.ext E8
      have Fdepth_b7_8 : Fld Z h8 b7 "com/example/template_stripper/templatestripper/Region" "depth" "I" (.int (0 : Int32)) := Fdepth_b7.ext E8
      have Z8 : n0 ≤ h8.size := Nat.le_trans Z7 E8.1
      refine RchW.step (st' := T8.setTop (mkF m 46 #[.val (.int vi0), .val (.int vi1), .val (.int vi2), .val (.int vi3), .val (.int (f1_0 vi0 vi1)), .val (.int (f2_0 vi0 vi1)), .val (.int (f1_0 vi2 vi3)), .val (.int (f2_0 vi2 vi3)), .unset, .unset, .unset] [(.ref b8), (.ref b7), (.ref b7)])) (fun _ hr => st8 _ hr) ?_
      refine RchW.step (st' := T8.setTop (mkF m 48 #[.val (.int vi0), .val (.int vi1), .val (.int vi2), .val (.int vi3), .val (.int (f1_0 vi0 vi1)), .val (.int (f2_0 vi0 vi1)), .val (.int (f1_0 vi2 vi3)), .val (.int (f2_0 vi2 vi3)), .unset, .unset, .unset] [(.int (f1_0 vi0 vi1)), (.ref b8), (.ref b7), (.ref b7)])) (fun _ hr => XS.iload X8.here hx rfl (hb hby at_46) rfl hr) ?_
      refine RchW.step (st' := T8.setTop (mkF m 50 #[.val (.int vi0), .val (.int vi1), .val (.int vi2), .val (.int vi3), .val (.int (f1_0 vi0 vi1)), .val (.int (f2_0 vi0 vi1)), .val (.int (f1_0 vi2 vi3)), .val (.int (f2_0 vi2 vi3)), .unset, .unset, .unset] [(.int (f2_0 vi0 vi1)), (.int (f1_0 vi0 vi1)), (.ref b8), (.ref b7), (.ref b7)])) (fun _ hr => XS.iload X8.here hx rfl (hb hby at_48) rfl hr) ?_
      refine RchW.step (st' := T8.setTop (mkF m 51 #[.val (.int vi0), .val (.int vi1), .val (.int vi2), .val (.int vi3), .val (.int (f1_0 vi0 vi1)), .val (.int (f2_0 vi0 vi1)), .val (.int (f1_0 vi2 vi3)), .val (.int (f2_0 vi2 vi3)), .unset, .unset, .unset] [(.int (1 : Int32)), (.int (f2_0 vi0 vi1)), (.int (f1_0 vi0 vi1)), (.ref b8), (.ref b7), (.ref b7)])) (fun _ hr => XS.iconst X8.here hx rfl (hb hby at_50) hr) ?_
      obtain ⟨_, _, ⟨T9, L9, k9, n9⟩, -, X9, ⟨Lc9, hQ9, l9, y9, z9⟩, st9⟩ := X8.specialBack hx (y := (⟨"com/example/template_stripper/templatestripper/Region", "<init>", "(Ljava/lang/String;III)V"⟩ : MethodName)) rfl hown (mvT hZ (hw _ (List.mem_of_getElem? (i := 18) rfl))) (mvT hZ (hw _ (List.mem_of_getElem? (i := 19) rfl))) (mvT hZ (hw _ (List.mem_of_getElem? (i := 20) rfl))) (by decide) (backOf (W := 1) (rm3 l Z a0 hw [] b7 b8 (f1_0 vi0 vi1) (f2_0 vi0 vi1) (1 : Int32) (0 : Int32) (0 : Int32) (0 : Int32) h8 n0 Z8 low_b7 E_b7_8 Fposition_b7_8 FfirstSegment_b7_8 FendSegment_b7_8 Fdepth_b7_8) hZ (hw _ (List.mem_of_getElem? (i := 20) rfl)) (hw _ (List.mem_of_getElem? (i := 9) rfl)) (by decide) (by decide)) (g := (mkF m 51 #[.val (.int vi0), .val (.int vi1), .val (.int vi2), .val (.int vi3), .val (.int (f1_0 vi0 vi1)), .val (.int (f2_0 vi0 vi1)), .val (.int (f1_0 vi2 vi3)), .val (.int (f2_0 vi2 vi3)), .unset, .unset, .unset] [(.int (1 : Int32)), (.int (f2_0 vi0 vi1)), (.int (f1_0 vi0 vi1)), (.ref b8), (.ref b7), (.ref b7)])) rfl (by rw [hml]; rfl) (Steps.refl _) (a := b7) (argsL := [(.ref b8), (.int (f1_0 vi0 vi1)), (.int (f2_0 vi0 vi1)), (.int (1 : Int32))]) (rest := [(.ref b7)]) (lenOf pd3 rfl) rfl (by show 2 * 0 + _ ≤ _; exact Nat.le_of_eq rfl) (hb hby at_51) (fun _ _ => ⟨rfl, e8, (by decide : 3 + 0 ≤ _), (by decide : 36 + 0 ≤ _)⟩)
      dsimp only [Pt.U, Pt.locs, Pt.cells, Pt.slots] at X9 l9 y9 z9 st9 hQ9
      subst l9 y9 z9
      obtain ⟨rfl, N9q, K9q, P9_0, P9_1, P9_2, P9_3, P9_4⟩ := hQ9
      have Z9 : n0 ≤ T9.heap.size := Nat.le_trans Z8 K9q.1
      have N9 := Fr.app N6 N9q
      refine RchW.step (st' := T9.setTop (mkF m 54 #[.val (.int vi0), .val (.int vi1), .val (.int vi2), .val (.int vi3), .val (.int (f1_0 vi0 vi1)), .val (.int (f2_0 vi0 vi1)), .val (.int (f1_0 vi2 vi3)), .val (.int (f2_0 vi2 vi3)), .unset, .unset, .unset] [(.ref b7)])) (fun _ hr => st9.trans hr) ?_
      refine RchW.step (st' := T9.setTop (mkF m 56 #[.val (.int vi0), .val (.int vi1), .val (.int vi2), .val (.int vi3), .val (.int (f1_0 vi0 vi1)), .val (.int (f2_0 vi0 vi1)), .val (.int (f1_0 vi2 vi3)), .val (.int (f2_0 vi2 vi3)), .val (.ref b7), .unset, .unset] [])) (fun _ hr => XS.astore X9.here hx rfl (hb hby at_54) rfl rfl (l' := #[.val (.int vi0), .val (.int vi1), .val (.int vi2), .val (.int vi3), .val (.int (f1_0 vi0 vi1)), .val (.int (f2_0 vi0 vi1)), .val (.int (f1_0 vi2 vi3)), .val (.int (f2_0 vi2 vi3)), .val (.ref b7), .unset, .unset]) rfl hr) ?_
      obtain ⟨T10, h10, X10, e10, E10, A10, D10, -, st10⟩ := newO X9 hx hZ hown (hw _ (List.mem_of_getElem? (i := 7) rfl)) (hw _ (List.mem_of_getElem? (i := 8) rfl)) (hw _ (List.mem_of_getElem? (i := 9) rfl)) rfl (g := (mkF m 56 #[.val (.int vi0), .val (.int vi1), .val (.int vi2), .val (.int vi3), .val (.int (f1_0 vi0 vi1)), .val (.int (f2_0 vi0 vi1)), .val (.int (f1_0 vi2 vi3)), .val (.int (f2_0 vi2 vi3)), .val (.ref b7), .unset, .unset] [])) rfl (hb hby at_56) (by decide) (by decide)
      obtain ⟨b10, g10⟩ : ∃ z, z = T9.heap.size := ⟨_, rfl⟩
      rw [← g10] at A10 D10 st10
      have ne_b7_b10 : b7 ≠ b10 := Nat.ne_of_lt (Nat.lt_of_lt_of_le P9_0.lt (Nat.le_of_eq g10.symm))
      have low_b10 : n0 ≤ b10 := Nat.le_trans Z9 (Nat.le_of_eq g10.symm)
      have E_b7_10 : Exa Z h10 b7 "com/example/template_stripper/templatestripper/Region" := P9_0.ext E10
      have Fposition_b7_10 : Fld Z h10 b7 "com/example/template_stripper/templatestripper/Region" "position" "Ljava/lang/String;" (.ref b8) := P9_1.ext E10
      have FfirstSegment_b7_10 : Fld Z h10 b7 "com/example/template_stripper/templatestripper/Region" "firstSegment" "I" (.int (f1_0 vi0 vi1)) := P9_2.ext E10
      have FendSegment_b7_10 : Fld Z h10 b7 "com/example/template_stripper/templatestripper/Region" "endSegment" "I" (.int (f2_0 vi0 vi1)) := P9_3.ext E10
      have Fdepth_b7_10 : Fld Z h10 b7 "com/example/template_stripper/templatestripper/Region" "depth" "I" (.int (1 : Int32)) := P9_4.ext E10
      have Z10 : n0 ≤ h10.size := Nat.le_trans Z9 E10.1
      have Fposition_b10 : Fld Z h10 b10 "com/example/template_stripper/templatestripper/Region" "position" "Ljava/lang/String;" .null := D10 (Or.inr (hw _ (List.mem_of_getElem? (i := 25) rfl))) (ty := (.object "java/lang/String")) (by decide)
      have FfirstSegment_b10 : Fld Z h10 b10 "com/example/template_stripper/templatestripper/Region" "firstSegment" "I" (.int (0 : Int32)) := D10 (Or.inr (hw _ (List.mem_of_getElem? (i := 27) rfl))) (ty := .int) (by decide)
      have FendSegment_b10 : Fld Z h10 b10 "com/example/template_stripper/templatestripper/Region" "endSegment" "I" (.int (0 : Int32)) := D10 (Or.inr (hw _ (List.mem_of_getElem? (i := 29) rfl))) (ty := .int) (by decide)
      have Fdepth_b10 : Fld Z h10 b10 "com/example/template_stripper/templatestripper/Region" "depth" "I" (.int (0 : Int32)) := D10 (Or.inr (hw _ (List.mem_of_getElem? (i := 31) rfl))) (ty := .int) (by decide)
      refine RchW.step (st' := T10.setTop (mkF m 59 #[.val (.int vi0), .val (.int vi1), .val (.int vi2), .val (.int vi3), .val (.int (f1_0 vi0 vi1)), .val (.int (f2_0 vi0 vi1)), .val (.int (f1_0 vi2 vi3)), .val (.int (f2_0 vi2 vi3)), .val (.ref b7), .unset, .unset] [(.ref b10)])) (fun _ hr => st10 _ hr) ?_
      refine RchW.step (st' := T10.setTop (mkF m 60 #[.val (.int vi0), .val (.int vi1), .val (.int vi2), .val (.int vi3), .val (.int (f1_0 vi0 vi1)), .val (.int (f2_0 vi0 vi1)), .val (.int (f1_0 vi2 vi3)), .val (.int (f2_0 vi2 vi3)), .val (.ref b7), .unset, .unset] [(.ref b10), (.ref b10)])) (fun _ hr => XS.dup X10.here hx rfl (hb hby at_59) rfl rfl hr) ?_
      obtain ⟨b11, T11, h11, k11, X11, e11, E11, hS, hk11, hZ, hown, st11⟩ := ldcS X10 hx hZ hown (hw _ (List.mem_of_getElem? (i := 32) rfl)) hwS e10 hS (Nat.le_trans (Nat.le_trans hk8 K9q.1) E10.1) (g := (mkF m 60 #[.val (.int vi0), .val (.int vi1), .val (.int vi2), .val (.int vi3), .val (.int (f1_0 vi0 vi1)), .val (.int (f2_0 vi0 vi1)), .val (.int (f1_0 vi2 vi3)), .val (.int (f2_0 vi2 vi3)), .val (.ref b7), .unset, .unset] [(.ref b10), (.ref b10)])) rfl (hb hby at_60) (n := 60) (by decide) (by decide) (by decide) (by decide)
      have E_b7_11 : Exa Z h11 b7 "com/example/template_stripper/templatestripper/Region" := E_b7_10.ext E11
      have Fposition_b7_11 : Fld Z h11 b7 "com/example/template_stripper/templatestripper/Region" "position" "Ljava/lang/String;" (.ref b8) := Fposition_b7_10.ext E11
      have FfirstSegment_b7_11 : Fld Z h11 b7 "com/example/template_stripper/templatestripper/Region" "firstSegment" "I" (.int (f1_0 vi0 vi1)) := FfirstSegment_b7_10.ext E11
      have FendSegment_b7_11 : Fld Z h11 b7 "com/example/template_stripper/templatestripper/Region" "endSegment" "I" (.int (f2_0 vi0 vi1)) := FendSegment_b7_10.ext E11
      have Fdepth_b7_11 : Fld Z h11 b7 "com/example/template_stripper/templatestripper/Region" "depth" "I" (.int (1 : Int32)) := Fdepth_b7_10.ext E11
      have E_b10_11 : Exa Z h11 b10 "com/example/template_stripper/templatestripper/Region" := A10.ext E11
      have Fposition_b10_11 : Fld Z h11 b10 "com/example/template_stripper/templatestripper/Region" "position" "Ljava/lang/String;" .null := Fposition_b10.ext E11
      have FfirstSegment_b10_11 : Fld Z h11 b10 "com/example/template_stripper/templatestripper/Region" "firstSegment" "I" (.int (0 : Int32)) := FfirstSegment_b10.ext E11
      have FendSegment_b10_11 : Fld Z h11 b10 "com/example/template_stripper/templatestripper/Region" "endSegment" "I" (.int (0 : Int32)) := FendSegment_b10.ext E11
      have Fdepth_b10_11 : Fld Z h11 b10 "com/example/template_stripper/templatestripper/Region" "depth" "I" (.int (0 : Int32)) := Fdepth_b10.ext E11
      have Z11 : n0 ≤ h11.size := Nat.le_trans Z10 E11.1
      refine RchW.step (st' := T11.setTop (mkF m 62 #[.val (.int vi0), .val (.int vi1), .val (.int vi2), .val (.int vi3), .val (.int (f1_0 vi0 vi1)), .val (.int (f2_0 vi0 vi1)), .val (.int (f1_0 vi2 vi3)), .val (.int (f2_0 vi2 vi3)), .val (.ref b7), .unset, .unset] [(.ref b11), (.ref b10), (.ref b10)])) (fun _ hr => st11 _ hr) ?_
      refine RchW.step (st' := T11.setTop (mkF m 64 #[.val (.int vi0), .val (.int vi1), .val (.int vi2), .val (.int vi3), .val (.int (f1_0 vi0 vi1)), .val (.int (f2_0 vi0 vi1)), .val (.int (f1_0 vi2 vi3)), .val (.int (f2_0 vi2 vi3)), .val (.ref b7), .unset, .unset] [(.int (f1_0 vi2 vi3)), (.ref b11), (.ref b10), (.ref b10)])) (fun _ hr => XS.iload X11.here hx rfl (hb hby at_62) rfl hr) ?_
      refine RchW.step (st' := T11.setTop (mkF m 66 #[.val (.int vi0), .val (.int vi1), .val (.int vi2), .val (.int vi3), .val (.int (f1_0 vi0 vi1)), .val (.int (f2_0 vi0 vi1)), .val (.int (f1_0 vi2 vi3)), .val (.int (f2_0 vi2 vi3)), .val (.ref b7), .unset, .unset] [(.int (f2_0 vi2 vi3)), (.int (f1_0 vi2 vi3)), (.ref b11), (.ref b10), (.ref b10)])) (fun _ hr => XS.iload X11.here hx rfl (hb hby at_64) rfl hr) ?_
      refine RchW.step (st' := T11.setTop (mkF m 67 #[.val (.int vi0), .val (.int vi1), .val (.int vi2), .val (.int vi3), .val (.int (f1_0 vi0 vi1)), .val (.int (f2_0 vi0 vi1)), .val (.int (f1_0 vi2 vi3)), .val (.int (f2_0 vi2 vi3)), .val (.ref b7), .unset, .unset] [(.int (2 : Int32)), (.int (f2_0 vi2 vi3)), (.int (f1_0 vi2 vi3)), (.ref b11), (.ref b10), (.ref b10)])) (fun _ hr => XS.iconst X11.here hx rfl (hb hby at_66) hr) ?_
      obtain ⟨_, _, ⟨T12, L12, k12, n12⟩, -, X12, ⟨Lc12, hQ12, l12, y12, z12⟩, st12⟩ := X11.specialBack hx (y := (⟨"com/example/template_stripper/templatestripper/Region", "<init>", "(Ljava/lang/String;III)V"⟩ : MethodName)) rfl hown (mvT hZ (hw _ (List.mem_of_getElem? (i := 18) rfl))) (mvT hZ (hw _ (List.mem_of_getElem? (i := 19) rfl))) (mvT hZ (hw _ (List.mem_of_getElem? (i := 20) rfl))) (by decide) (backOf (W := 1) (rm3 l Z a0 hw [] b10 b11 (f1_0 vi2 vi3) (f2_0 vi2 vi3) (2 : Int32) (0 : Int32) (0 : Int32) (0 : Int32) h11 n0 Z11 low_b10 E_b10_11 Fposition_b10_11 FfirstSegment_b10_11 FendSegment_b10_11 Fdepth_b10_11) hZ (hw _ (List.mem_of_getElem? (i := 20) rfl)) (hw _ (List.mem_of_getElem? (i := 9) rfl)) (by decide) (by decide)) (g := (mkF m 67 #[.val (.int vi0), .val (.int vi1), .val (.int vi2), .val (.int vi3), .val (.int (f1_0 vi0 vi1)), .val (.int (f2_0 vi0 vi1)), .val (.int (f1_0 vi2 vi3)), .val (.int (f2_0 vi2 vi3)), .val (.ref b7), .unset, .unset] [(.int (2 : Int32)), (.int (f2_0 vi2 vi3)), (.int (f1_0 vi2 vi3)), (.ref b11), (.ref b10), (.ref b10)])) rfl (by rw [hml]; rfl) (Steps.refl _) (a := b10) (argsL := [(.ref b11), (.int (f1_0 vi2 vi3)), (.int (f2_0 vi2 vi3)), (.int (2 : Int32))]) (rest := [(.ref b10)]) (lenOf pd3 rfl) rfl (by show 2 * 0 + _ ≤ _; exact Nat.le_of_eq rfl) (hb hby at_67) (fun _ _ => ⟨rfl, e11, (by decide : 6 + 0 ≤ _), (by decide : 104 + 0 ≤ _)⟩)
      dsimp only [Pt.U, Pt.locs, Pt.cells, Pt.slots] at X12 l12 y12 z12 st12 hQ12
      subst l12 y12 z12
      obtain ⟨rfl, N12q, K12q, P12_0, P12_1, P12_2, P12_3, P12_4⟩ := hQ12
      have E_b7_12 : Exa Z T12.heap b7 "com/example/template_stripper/templatestripper/Region" := E_b7_11.keep K12q
      have Fposition_b7_12 : Fld Z T12.heap b7 "com/example/template_stripper/templatestripper/Region" "position" "Ljava/lang/String;" (.ref b8) := Fposition_b7_11.keep K12q (ninS ne_b7_b10 nin0)
      have FfirstSegment_b7_12 : Fld Z T12.heap b7 "com/example/template_stripper/templatestripper/Region" "firstSegment" "I" (.int (f1_0 vi0 vi1)) := FfirstSegment_b7_11.keep K12q (ninS ne_b7_b10 nin0)
      have FendSegment_b7_12 : Fld Z T12.heap b7 "com/example/template_stripper/templatestripper/Region" "endSegment" "I" (.int (f2_0 vi0 vi1)) := FendSegment_b7_11.keep K12q (ninS ne_b7_b10 nin0)
      have Fdepth_b7_12 : Fld Z T12.heap b7 "com/example/template_stripper/templatestripper/Region" "depth" "I" (.int (1 : Int32)) := Fdepth_b7_11.keep K12q (ninS ne_b7_b10 nin0)
      have Z12 : n0 ≤ T12.heap.size := Nat.le_trans Z11 K12q.1
      have N12 := Fr.app N9 N12q
      refine RchW.step (st' := T12.setTop (mkF m 70 #[.val (.int vi0), .val (.int vi1), .val (.int vi2), .val (.int vi3), .val (.int (f1_0 vi0 vi1)), .val (.int (f2_0 vi0 vi1)), .val (.int (f1_0 vi2 vi3)), .val (.int (f2_0 vi2 vi3)), .val (.ref b7), .unset, .unset] [(.ref b10)])) (fun _ hr => st12.trans hr) ?_
      refine RchW.step (st' := T12.setTop (mkF m 72 #[.val (.int vi0), .val (.int vi1), .val (.int vi2), .val (.int vi3), .val (.int (f1_0 vi0 vi1)), .val (.int (f2_0 vi0 vi1)), .val (.int (f1_0 vi2 vi3)), .val (.int (f2_0 vi2 vi3)), .val (.ref b7), .val (.ref b10), .unset] [])) (fun _ hr => XS.astore X12.here hx rfl (hb hby at_70) rfl rfl (l' := #[.val (.int vi0), .val (.int vi1), .val (.int vi2), .val (.int vi3), .val (.int (f1_0 vi0 vi1)), .val (.int (f2_0 vi0 vi1)), .val (.int (f1_0 vi2 vi3)), .val (.int (f2_0 vi2 vi3)), .val (.ref b7), .val (.ref b10), .unset]) rfl hr) ?_
      refine RchW.step (st' := T12.setTop (mkF m 74 #[.val (.int vi0), .val (.int vi1), .val (.int vi2), .val (.int vi3), .val (.int (f1_0 vi0 vi1)), .val (.int (f2_0 vi0 vi1)), .val (.int (f1_0 vi2 vi3)), .val (.int (f2_0 vi2 vi3)), .val (.ref b7), .val (.ref b10), .unset] [(.int (f1_0 vi0 vi1))])) (fun _ hr => XS.iload X12.here hx rfl (hb hby at_72) rfl hr) ?_
      refine RchW.step (st' := T12.setTop (mkF m 76 #[.val (.int vi0), .val (.int vi1), .val (.int vi2), .val (.int vi3), .val (.int (f1_0 vi0 vi1)), .val (.int (f2_0 vi0 vi1)), .val (.int (f1_0 vi2 vi3)), .val (.int (f2_0 vi2 vi3)), .val (.ref b7), .val (.ref b10), .unset] [(.int (f1_0 vi2 vi3)), (.int (f1_0 vi0 vi1))])) (fun _ hr => XS.iload X12.here hx rfl (hb hby at_74) rfl hr) ?_
      obtain ⟨_, _, ⟨T13, L13, k13, n13⟩, -, X13, ⟨Lc13, hQ13, l13, y13, z13⟩, st13⟩ := Jvm.LawKit.callS X12 hx (y := (⟨"java/lang/Math", "max", "(II)I"⟩ : MethodName)) hown (mvT hZ (hw _ (List.mem_of_getElem? (i := 4) rfl))) (mvT hZ (hw _ (List.mem_of_getElem? (i := 5) rfl))) (mvT hZ (hw _ (List.mem_of_getElem? (i := 2) rfl))) (mvT hZ (hw _ (List.mem_of_getElem? (i := 6) rfl))) (by decide) (backOf (W := 0) (rm2 l Z a0 hw [] (f1_0 vi0 vi1) (f1_0 vi2 vi3) T12.heap n0 Z12) hZ (hw _ (List.mem_of_getElem? (i := 6) rfl)) (hw _ (List.mem_of_getElem? (i := 2) rfl)) (by decide) (by decide)) (g := (mkF m 76 #[.val (.int vi0), .val (.int vi1), .val (.int vi2), .val (.int vi3), .val (.int (f1_0 vi0 vi1)), .val (.int (f2_0 vi0 vi1)), .val (.int (f1_0 vi2 vi3)), .val (.int (f2_0 vi2 vi3)), .val (.ref b7), .val (.ref b10), .unset] [(.int (f1_0 vi2 vi3)), (.int (f1_0 vi0 vi1))])) rfl (by rw [hml]; rfl) (argsL := [(.int (f1_0 vi0 vi1)), (.int (f1_0 vi2 vi3))]) (rest := []) (lenOf pd2 rfl) rfl (by show 2 * 0 + _ ≤ _; exact Nat.le_of_eq rfl) (hb hby at_76) (fun _ _ => ⟨rfl, rfl, (by decide : 6 + 0 ≤ _), (by decide : 104 + 0 ≤ _)⟩)
      dsimp only [Pt.U, Pt.locs, Pt.cells, Pt.slots] at X13 l13 y13 z13 st13 hQ13
      subst l13 y13 z13
      obtain ⟨rfl, N13q, e13⟩ := hQ13
      have N13 := Fr.app N12 N13q
      refine RchW.step (st' := T13.setTop (mkF m 79 #[.val (.int vi0), .val (.int vi1), .val (.int vi2), .val (.int vi3), .val (.int (f1_0 vi0 vi1)), .val (.int (f2_0 vi0 vi1)), .val (.int (f1_0 vi2 vi3)), .val (.int (f2_0 vi2 vi3)), .val (.ref b7), .val (.ref b10), .unset] [(.int (f2_0 (f1_0 vi0 vi1) (f1_0 vi2 vi3)))])) (fun _ hr => st13 _ hr) ?_
      refine RchW.step (st' := T13.setTop (mkF m 81 #[.val (.int vi0), .val (.int vi1), .val (.int vi2), .val (.int vi3), .val (.int (f1_0 vi0 vi1)), .val (.int (f2_0 vi0 vi1)), .val (.int (f1_0 vi2 vi3)), .val (.int (f2_0 vi2 vi3)), .val (.ref b7), .val (.ref b10), .unset] [(.int (f2_0 vi0 vi1)), (.int (f2_0 (f1_0 vi0 vi1) (f1_0 vi2 vi3)))])) (fun _ hr => XS.iload X13.here hx rfl (hb hby at_79) rfl hr) ?_
      refine RchW.step (st' := T13.setTop (mkF m 83 #[.val (.int vi0), .val (.int vi1), .val (.int vi2), .val (.int vi3), .val (.int (f1_0 vi0 vi1)), .val (.int (f2_0 vi0 vi1)), .val (.int (f1_0 vi2 vi3)), .val (.int (f2_0 vi2 vi3)), .val (.ref b7), .val (.ref b10), .unset] [(.int (f2_0 vi2 vi3)), (.int (f2_0 vi0 vi1)), (.int (f2_0 (f1_0 vi0 vi1) (f1_0 vi2 vi3)))])) (fun _ hr => XS.iload X13.here hx rfl (hb hby at_81) rfl hr) ?_
      obtain ⟨_, _, ⟨T14, L14, k14, n14⟩, -, X14, ⟨Lc14, hQ14, l14, y14, z14⟩, st14⟩ := Jvm.LawKit.callS X13 hx (y := (⟨"java/lang/Math", "min", "(II)I"⟩ : MethodName)) hown (mvT hZ (hw _ (List.mem_of_getElem? (i := 0) rfl))) (mvT hZ (hw _ (List.mem_of_getElem? (i := 1) rfl))) (mvT hZ (hw _ (List.mem_of_getElem? (i := 2) rfl))) (mvT hZ (hw _ (List.mem_of_getElem? (i := 3) rfl))) (by decide) (backOf (W := 1) (rm1 l Z a0 hw [] (f2_0 vi0 vi1) (f2_0 vi2 vi3) T12.heap n0 Z12) hZ (hw _ (List.mem_of_getElem? (i := 3) rfl)) (hw _ (List.mem_of_getElem? (i := 2) rfl)) (by decide) (by decide)) (g := (mkF m 83 #[.val (.int vi0), .val (.int vi1), .val (.int vi2), .val (.int vi3), .val (.int (f1_0 vi0 vi1)), .val (.int (f2_0 vi0 vi1)), .val (.int (f1_0 vi2 vi3)), .val (.int (f2_0 vi2 vi3)), .val (.ref b7), .val (.ref b10), .unset] [(.int (f2_0 vi2 vi3)), (.int (f2_0 vi0 vi1)), (.int (f2_0 (f1_0 vi0 vi1) (f1_0 vi2 vi3)))])) rfl (by rw [hml]; rfl) (argsL := [(.int (f2_0 vi0 vi1)), (.int (f2_0 vi2 vi3))]) (rest := [(.int (f2_0 (f1_0 vi0 vi1) (f1_0 vi2 vi3)))]) (lenOf pd1 rfl) rfl (by show 2 * 0 + _ ≤ _; exact Nat.le_of_eq rfl) (hb hby at_83) (fun _ _ => ⟨rfl, e13, (by decide : 6 + 0 ≤ _), (by decide : 104 + 0 ≤ _)⟩)
      dsimp only [Pt.U, Pt.locs, Pt.cells, Pt.slots] at X14 l14 y14 z14 st14 hQ14
      subst l14 y14 z14
      obtain ⟨rfl, N14q, e14⟩ := hQ14
      have N14 := Fr.app N13 N14q
      refine RchW.step (st' := T14.setTop (mkF m 86 #[.val (.int vi0), .val (.int vi1), .val (.int vi2), .val (.int vi3), .val (.int (f1_0 vi0 vi1)), .val (.int (f2_0 vi0 vi1)), .val (.int (f1_0 vi2 vi3)), .val (.int (f2_0 vi2 vi3)), .val (.ref b7), .val (.ref b10), .unset] [(.int (f1_0 (f2_0 vi0 vi1) (f2_0 vi2 vi3))), (.int (f2_0 (f1_0 vi0 vi1) (f1_0 vi2 vi3)))])) (fun _ hr => st14 _ hr) ?_
      by_cases hc15 : (f2_0 (f1_0 vi0 vi1) (f1_0 vi2 vi3)) < (f1_0 (f2_0 vi0 vi1) (f2_0 vi2 vi3))
      · rw [if_pos hc15]
        refine RchW.step (st' := T14.setTop (mkF m 89 #[.val (.int vi0), .val (.int vi1), .val (.int vi2), .val (.int vi3), .val (.int (f1_0 vi0 vi1)), .val (.int (f2_0 vi0 vi1)), .val (.int (f1_0 vi2 vi3)), .val (.int (f2_0 vi2 vi3)), .val (.ref b7), .val (.ref b10), .unset] [])) (fun _ hr => XS.icmpNo X14.here hx rfl (hb hby at_86) rfl (tlt hc15).2.1 hr) ?_
        refine RchW.step (st' := T14.setTop (mkF m 90 #[.val (.int vi0), .val (.int vi1), .val (.int vi2), .val (.int vi3), .val (.int (f1_0 vi0 vi1)), .val (.int (f2_0 vi0 vi1)), .val (.int (f1_0 vi2 vi3)), .val (.int (f2_0 vi2 vi3)), .val (.ref b7), .val (.ref b10), .unset] [(.int (1 : Int32))])) (fun _ hr => XS.iconst X14.here hx rfl (hb hby at_89) hr) ?_
        refine RchW.step (st' := T14.setTop (mkF m 94 #[.val (.int vi0), .val (.int vi1), .val (.int vi2), .val (.int vi3), .val (.int (f1_0 vi0 vi1)), .val (.int (f2_0 vi0 vi1)), .val (.int (f1_0 vi2 vi3)), .val (.int (f2_0 vi2 vi3)), .val (.ref b7), .val (.ref b10), .unset] [(.int (1 : Int32))])) (fun _ hr => XS.goto X14.here hx rfl (pc0 := 90) (pc' := 94) rfl (hb hby at_90) (by decide) (by decide) hr) ?_
        exact b0_94 ⟨⟨X14, hx, hZ, hw, hby, hml, hown, hret, hlk, e14, Z12, N14⟩, hS, (Nat.le_trans hk11 K12q.1)⟩ vi0 vi1 vi2 vi3 (f1_0 vi0 vi1) (f2_0 vi0 vi1) (f1_0 vi2 vi3) (f2_0 vi2 vi3) b7 b10 (1 : Int32) b8 b11 (1 : Int32) (f2_0 vi0 vi1) (f1_0 vi0 vi1) (2 : Int32) (f2_0 vi2 vi3) (f1_0 vi2 vi3) E_b7_12 Fdepth_b7_12 FendSegment_b7_12 FfirstSegment_b7_12 Fposition_b7_12 P12_0 P12_4 P12_3 P12_2 P12_1 low_b7 low_b10 ne_b7_b10
      · rw [if_neg hc15]
        refine RchW.step (st' := T14.setTop (mkF m 93 #[.val (.int vi0), .val (.int vi1), .val (.int vi2), .val (.int vi3), .val (.int (f1_0 vi0 vi1)), .val (.int (f2_0 vi0 vi1)), .val (.int (f1_0 vi2 vi3)), .val (.int (f2_0 vi2 vi3)), .val (.ref b7), .val (.ref b10), .unset] [])) (fun _ hr => XS.icmpYes X14.here hx rfl (pc0 := 86) (pc' := 93) rfl (hb hby at_86) rfl (flt hc15).2.1 (by decide) (by decide) hr) ?_
        refine RchW.step (st' := T14.setTop (mkF m 94 #[.val (.int vi0), .val (.int vi1), .val (.int vi2), .val (.int vi3), .val (.int (f1_0 vi0 vi1)), .val (.int (f2_0 vi0 vi1)), .val (.int (f1_0 vi2 vi3)), .val (.int (f2_0 vi2 vi3)), .val (.ref b7), .val (.ref b10), .unset] [(.int (0 : Int32))])) (fun _ hr => XS.iconst X14.here hx rfl (hb hby at_93) hr) ?_
        exact b0_94 ⟨⟨X14, hx, hZ, hw, hby, hml, hown, hret, hlk, e14, Z12, N14⟩, hS, (Nat.le_trans hk11 K12q.1)⟩ vi0 vi1 vi2 vi3 (f1_0 vi0 vi1) (f2_0 vi0 vi1) (f1_0 vi2 vi3) (f2_0 vi2 vi3) b7 b10 (0 : Int32) b8 b11 (1 : Int32) (f2_0 vi0 vi1) (f1_0 vi0 vi1) (2 : Int32) (f2_0 vi2 vi3) (f1_0 vi2 vi3) E_b7_12 Fdepth_b7_12 FendSegment_b7_12 FfirstSegment_b7_12 Fposition_b7_12 P12_0 P12_4 P12_3 P12_2 P12_1 low_b7 low_b10 ne_b7_b10
theorem ef0 (m : MethodId) (x0 : Int32) (x1 : Int32) (x2 : Int32) (x3 : Int32) : entryFrame m #[(.int x0), (.int x1), (.int x2), (.int x3)] maxLocals = mkF m 0 #[.val (.int x0), .val (.int x1), .val (.int x2), .val (.int x3), .unset, .unset, .unset, .unset, .unset, .unset, .unset] [] := by first | (simp [entryFrame, mkF, argsToLocals, Value.category, maxLocals]; done) | rfl
set_option maxRecDepth 65536 in
set_option maxHeartbeats 40000000 in
theorem rm0 (l : Launch) (Z : State) (a0 : Array Value) (hw : ∀ d ∈ tables_1, d.before a0 Z = true) (ws : List Jvm.Cond) (x0 : Int32) (x1 : Int32) (x2 : Int32) (x3 : Int32) (h0 : Heap) (n0 : Nat) (Z0 : n0 ≤ h0.size)  :
    MetFree l x (head1 (Jvm.Cond.code x code maxLocals ret :: ws) room_1) (fun a U => a = #[(.int x0), (.int x1), (.int x2), (.int x3)] ∧ Z.Warmed39 U.vm ∧ U.heap = h0) (fun _ _ _ _ _ => True) (fun _ U o U' => ∃ v L, o = .returned v ∧ PL (f0_0 x0 x1 x2 x3) n0 v U'.heap L ∧ ReturnedEndW U o U' L room_1.cells room_1.slots) := by
  refine MetFree.of_bodySF (plainFor_of_name pn0) hisR ?_
  intro p e s m args below meth c s₁ Bd hml0 hP hK
  obtain ⟨rfl, hZ, hh⟩ := hP
  have hown : s.vm.findClass "com/example/template_stripper/templatestripper/RegionOverlapsPinLaw" = some m.cls := findClass_of_methodNamed Bd.named
  have e0 : s₁.heap = h0 := by rw [← hh, Bd.state]; rfl
  obtain ⟨s₂, v, L, h1, h2, h3, h4, h5⟩ := b0_0 (vm0 := s.vm) (k0 := 0) (T := s₁) ⟨⟨Stand.of_body Bd, Bd.exec, hZ, hw, Bd.bytes, hml0, hown, Bd.returns, BodyLoose.notSynchronized Bd, e0, Z0, Fr.nil n0⟩, (State.WarmedH.refl s).since 0, Nat.zero_le _⟩ x0 x1 x2 x3
  exact ⟨s₂, .returned v, castTop (ef0 m x0 x1 x2 x3) h1, h2, h3, v, L, rfl, h4, h5⟩
theorem own_mn (x y : Int32) : (f1_0 x y).toInt = if y.toInt < x.toInt then y.toInt else x.toInt := by
  unfold f1_0
  simp only [Int32.lt_iff_toInt_lt]
  split <;> rfl
theorem own_mx (x y : Int32) : (f2_0 x y).toInt = if x.toInt < y.toInt then y.toInt else x.toInt := by
  unfold f2_0
  simp only [Int32.lt_iff_toInt_lt]
  split <;> rfl
theorem own_94 (si d1 e1 s1 d2 e2 s2 : Int32) (h1 : s1.toInt < e1.toInt) (h2 : s2.toInt < e2.toInt) (h : si = if s1.toInt < e2.toInt ∧ s2.toInt < e1.toInt then 1 else 0) : f0_94 si d1 e1 s1 d2 e2 s2 = 1 := by
  unfold f0_94 f5_0
  simp only [Int32.lt_iff_toInt_lt]
  by_cases p : s1.toInt < e2.toInt
  · by_cases q : s2.toInt < e1.toInt
    · rw [if_pos ⟨p, q⟩] at h
      subst h
      simp only [p, q, h1, if_true]
      rfl
    · rw [if_neg (fun z => q z.2)] at h
      subst h
      simp only [p, q, h1, if_true, if_false]
      rfl
  · rw [if_neg (fun z => p z.1)] at h
    subst h
    simp only [p, h1, if_true, if_false, ite_self]
    rfl
theorem own_law (a b c d : Int32) : f0_0 a b c d = 1 := by
  unfold f0_0
  by_cases h1 : a = b
  · rw [if_pos h1]
  rw [if_neg h1]
  by_cases h2 : c = d
  · rw [if_pos h2]
  rw [if_neg h2]
  rw [← Int32.toInt_inj] at h1 h2
  have m1 := own_mn a b
  have x1 := own_mx a b
  have m2 := own_mn c d
  have x2 := own_mx c d
  have a1 : (f1_0 a b).toInt < (f2_0 a b).toInt := by
    rw [m1, x1]; split <;> split <;> omega
  have a2 : (f1_0 c d).toInt < (f2_0 c d).toInt := by
    rw [m2, x2]; split <;> split <;> omega
  generalize f1_0 a b = s1 at *
  generalize f2_0 a b = e1 at *
  generalize f1_0 c d = s2 at *
  generalize f2_0 c d = e2 at *
  have mm := own_mn e1 e2
  have xx := own_mx s1 s2
  by_cases h : (f2_0 s1 s2) < (f1_0 e1 e2)
  · rw [if_pos h]
    rw [Int32.lt_iff_toInt_lt, mm, xx] at h
    refine own_94 _ _ _ _ _ _ _ a1 a2 ?_
    rw [if_pos]
    split at h <;> split at h <;> omega
  · rw [if_neg h]
    rw [Int32.lt_iff_toInt_lt, mm, xx] at h
    refine own_94 _ _ _ _ _ _ _ a1 a2 ?_
    rw [if_neg]
    intro z
    split at h <;> split at h <;> omega
set_option maxRecDepth 65536 in
set_option maxHeartbeats 40000000 in
theorem comes_1 {Post : Tables → Env → Array Value → State → Outcome → State → Prop} (hpost : ∀ tb e args s v u, (limb_1_1.after args s (.returned v) u = true ∧ limb_1_2.after args s (.returned v) u = true ∧ True) → ReturnedEndW s (.returned v) u (Jvm.fieldLocs frame_1_writes args s ++ Jvm.arrayLocs frame_1_arrays args s ++ Jvm.staticLocs frame_1_statics s) 16 2176 → Post tb e args s (.returned v) u) :
    ArmFor flags0 classFile x code maxLocals ret World_1 tables_1 room_1 Calls_1 rest_1 Pre_1 Post := by
  intro l hfl _ _ p e ha hc hk s m args below hf hA hF happ hP
  obtain ⟨hcalls, hrest, hpre⟩ := hP
  obtain ⟨-, -, -, hnamed, -, -, -, hat⟩ := (Spec.applies_iff hf).mp happ
  obtain ⟨hg, hn⟩ := and_e (Cond.before_iff.mp (show (Jvm.Cond.and given_1 narrow_1).before args s = true from hpre))
  obtain ⟨g1, g2⟩ := and_e hg
  obtain ⟨g3, g4⟩ := and_e g2
  obtain ⟨g5, g6⟩ := and_e g4
  obtain ⟨g7, g8⟩ := and_e g6
  obtain ⟨w0, w1, w2, w3, rfl⟩ : ∃ w0 w1 w2 w3 : Value, args = #[w0, w1, w2, w3] := by
    have hs : args.size = 4 := by simpa [Cond.value, given_1] using g1
    obtain ⟨L⟩ := args
    match L, hs with
    | [w0, w1, w2, w3], _ => exact ⟨w0, w1, w2, w3, rfl⟩
  have hw := fun d (hd : d ∈ tables_1) => atoms_spec (ws := Jvm.Cond.code x code maxLocals ret :: tables_1) hat d (List.mem_cons_of_mem _ hd)
  obtain ⟨i0, ei0⟩ := is_v g3
  obtain rfl : w0 = (.int i0) := Option.some.inj ei0
  obtain ⟨i1, ei1⟩ := is_v g5
  obtain rfl : w1 = (.int i1) := Option.some.inj ei1
  obtain ⟨i2, ei2⟩ := is_v g7
  obtain rfl : w2 = (.int i2) := Option.some.inj ei2
  obtain ⟨i3, ei3⟩ := is_v g8
  obtain rfl : w3 = (.int i3) := Option.some.inj ei3
  obtain ⟨n, o, h1, h2, h3, _, L, rfl, ⟨rfl, N⟩, hq⟩ := rm0 l s _ hw tables_1 i0 i1 i2 i3 s.heap s.heap.size (Nat.le_refl _) p e ha hc hk s m _ below hf ((Spec.applies_iff_loose hf).mp happ).1 ⟨rfl, State.Warmed39.refl s, rfl⟩ trivial
  have hlaw := own_law i0 i1 i2 i3
  refine ⟨n, _, h1, h2, h3, hpost _ _ _ _ _ _ ⟨Cond.after_iff.mpr rfl, Cond.after_iff.mpr (eq_i res_at (Term.int_eval (1)) (by rw [hlaw])), trivial⟩ ⟨hq.1, hq.2.1, hq.2.2.1, (hq.2.2.2.sift fun y hy => Or.inr (N y hy)).mono (by decide) (by decide)⟩⟩
theorem main_1_1 : Claimed_1_1 := comes_1 fun _ _ _ _ _ _ h hF => ⟨h.1, hF⟩
theorem main_1_2 : Claimed_1_2 := comes_1 fun _ _ _ _ _ _ h hF => ⟨h.2.1, hF⟩
end Jvm.Pilot.@@N@@
namespace Jvm.Pilot.@@N@@
open Jvm Jvm.ClassFile Sem Op Lib Jvm.Free Jvm.Stand Jvm.Pilot.@@N@@.Jvm.D
/-! MADE BY PROGRAM (witnessworld.py) out of the Statement's table words and the real class files: 15 classes; the members and pool entries that the words name. The judged class is class 1, her method 1. -/
namespace start1
open Jvm.ClassFile
def u (s : String) : CpInfo := .utf8 (stringToUtf16 s)
/-- a pool by its gaps: so many unusable entries, then the entry; so many at the end -/
def gap : Nat → List CpInfo → List CpInfo
  | 0, r => r
  | n + 1, r => .unusable :: gap n r
def poolList (es : List (Nat × CpInfo)) (last : Nat) : List CpInfo := es.foldr (fun e r => gap e.1 (e.2 :: r)) (gap last [])
def pool (es : List (Nat × CpInfo)) (last : Nat) : Array CpInfo := ⟨poolList es last⟩
def fileOf (pool : Array CpInfo) (this : Nat) (attrs : Array Attribute := #[]) (ms : Array MethodInfo := #[]) (fl : Nat := 33) (sup : Nat := 0) (ifs : Array Nat := #[]) (fds : Array FieldInfo := #[]) : ClassFile where
  minorVersion := 0
  majorVersion := 65
  constantPool := pool
  accessFlags := fl
  thisClass := this
  superClass := sup
  interfaces := ifs
  fields := fds
  methods := ms
  attributes := attrs
def plain (name : String) (sup : Option ClassId) : Class where
  name := name
  kind := .ordinary
  loader := none
  accessFlags := 33
  super := sup
  interfaces := #[]
  cf := none
  fields := #[]
  methods := #[]
  instanceTypes := #[]
  staticTypes := #[]
  resolved := #[]
  callSites := []
  init := .initialized
  statics := none
  mirror := none

def pool0 : Array CpInfo := pool [(5, u "<init>"), (0, u "()V"), (1, .class_ 10), (1, u "java/lang/Object")] 113

def k0c0 : Code := { maxStack := 0, maxLocals := 1, code := object_method_1_code, exceptionTable := #[], attributes := #[] }
def k0m0 : Method := { name := "<init>", desc := "()V", sig := { parameters := [], returnType := none }, accessFlags := 1, code := some k0c0 }
/-- java/lang/Object -/
def k0 : Class := { plain "java/lang/Object" none with
  accessFlags := 33
  interfaces := #[]
  cf := some (fileOf pool0 8 #[] #[{ accessFlags := 1, nameIndex := 5, descriptorIndex := 6, attributes := #[] }] 33 0 #[] #[])
  fields := #[]
  methods := #[k0m0]
  instanceTypes := #[]
  staticTypes := #[]
  resolved := Array.replicate 124 none
  statics := none }

def pool1 : Array CpInfo := pool [(2, .class_ 4), (1, u "java/lang/Object"), (0, u "<init>"), (0, u "()V"), (0, .methodref 8 9), (0, .class_ 10), (0, .nameAndType 11 12), (0, u "java/lang/Math"), (0, u "min"), (0, u "(II)I"), (0, .methodref 8 14), (0, .nameAndType 15 12), (0, u "max"), (0, .class_ 17), (0, u "com/example/template_stripper/templatestripper/Region"), (0, .string 19), (0, u "html[1]"), (0, .methodref 16 21), (0, .nameAndType 5 22), (0, u "(Ljava/lang/String;III)V"), (0, .string 24), (0, u "html[1]/body[1]"), (0, .methodref 16 26), (0, .nameAndType 27 28), (0, u "overlaps"), (0, u "(Lcom/example/template_stripper/templatestripper/Region;)Z"), (0, .class_ 30), (0, u "com/example/template_stripper/templatestripper/RegionOverlapsPinLaw"), (2, u "law"), (0, u "(IIII)Z")] 3

def k1m0 : Method := { name := "<init>", desc := "()V", sig := { parameters := [], returnType := none }, accessFlags := 2, code := none }
def k1c1 : Code := { maxStack := 6, maxLocals := 11, code := code, exceptionTable := #[], attributes := #[] }
def k1m1 : Method := { name := "law", desc := "(IIII)Z", sig := { parameters := [.int, .int, .int, .int], returnType := some .boolean }, accessFlags := 9, code := some k1c1 }
/-- com/example/template_stripper/templatestripper/RegionOverlapsPinLaw -/
def k1 : Class := { plain "com/example/template_stripper/templatestripper/RegionOverlapsPinLaw" (some 0) with
  accessFlags := 49
  interfaces := #[]
  cf := some (fileOf pool1 29 #[] #[{ accessFlags := 2, nameIndex := 5, descriptorIndex := 6, attributes := #[] }, { accessFlags := 9, nameIndex := 33, descriptorIndex := 34, attributes := #[] }] 49 2 #[] #[])
  fields := #[]
  methods := #[k1m0, k1m1]
  instanceTypes := #[]
  staticTypes := #[]
  resolved := Array.replicate 38 none
  statics := none }

def pool2 : Array CpInfo := pool [(1, .class_ 2), (0, u "java/lang/Math"), (1, .class_ 6), (1, u "java/lang/Object"), (0, u "<init>"), (0, u "()V"), (89, .class_ 100), (1, u "java/lang/Math$RandomNumberGeneratorHolder"), (71, u "negativeZeroFloatBits"), (0, u "J"), (2, u "negativeZeroDoubleBits"), (21, u "max"), (2, u "min"), (43, u "$assertionsDisabled"), (0, u "Z"), (88, u "(II)I"), (2, u "twoToTheDoubleScaleDown"), (0, u "D"), (4, u "twoToTheDoubleScaleUp"), (9, u "E"), (3, u "PI"), (2, u "TAU"), (2, u "DEGREES_TO_RADIANS"), (0, u "RADIANS_TO_DEGREES")] 94

def k2m0 : Method := { name := "<init>", desc := "()V", sig := { parameters := [], returnType := none }, accessFlags := 2, code := none }
def k2c1 : Code := { maxStack := 2, maxLocals := 2, code := jdk_29_method_65_code, exceptionTable := #[], attributes := #[] }
def k2m1 : Method := { name := "max", desc := "(II)I", sig := { parameters := [.int, .int], returnType := some .int }, accessFlags := 9, code := some k2c1 }
def k2c2 : Code := { maxStack := 2, maxLocals := 2, code := jdk_29_method_69_code, exceptionTable := #[], attributes := #[] }
def k2m2 : Method := { name := "min", desc := "(II)I", sig := { parameters := [.int, .int], returnType := some .int }, accessFlags := 9, code := some k2c2 }
/-- java/lang/Math -/
def k2 : Class := { plain "java/lang/Math" (some 0) with
  accessFlags := 49
  interfaces := #[]
  cf := some (fileOf pool2 1 #[.nestMembers #[98]] #[{ accessFlags := 2, nameIndex := 7, descriptorIndex := 8, attributes := #[] }, { accessFlags := 9, nameIndex := 198, descriptorIndex := 335, attributes := #[] }, { accessFlags := 9, nameIndex := 201, descriptorIndex := 335, attributes := #[] }] 49 4 #[] #[{ accessFlags := 25, nameIndex := 354, descriptorIndex := 339, attributes := #[] }, { accessFlags := 25, nameIndex := 358, descriptorIndex := 339, attributes := #[] }, { accessFlags := 25, nameIndex := 361, descriptorIndex := 339, attributes := #[] }, { accessFlags := 26, nameIndex := 364, descriptorIndex := 339, attributes := #[] }, { accessFlags := 26, nameIndex := 365, descriptorIndex := 339, attributes := #[] }, { accessFlags := 26, nameIndex := 172, descriptorIndex := 173, attributes := #[] }, { accessFlags := 26, nameIndex := 176, descriptorIndex := 173, attributes := #[] }, { accessFlags := 8, nameIndex := 344, descriptorIndex := 339, attributes := #[] }, { accessFlags := 8, nameIndex := 338, descriptorIndex := 339, attributes := #[] }, { accessFlags := 4120, nameIndex := 245, descriptorIndex := 246, attributes := #[] }])
  fields := #[{ name := "E", type := .double, accessFlags := 25, slot := 0, constantValue := 0 }, { name := "PI", type := .double, accessFlags := 25, slot := 1, constantValue := 0 }, { name := "TAU", type := .double, accessFlags := 25, slot := 2, constantValue := 0 }, { name := "DEGREES_TO_RADIANS", type := .double, accessFlags := 26, slot := 3, constantValue := 0 }, { name := "RADIANS_TO_DEGREES", type := .double, accessFlags := 26, slot := 4, constantValue := 0 }, { name := "negativeZeroFloatBits", type := .long, accessFlags := 26, slot := 5, constantValue := 0 }, { name := "negativeZeroDoubleBits", type := .long, accessFlags := 26, slot := 6, constantValue := 0 }, { name := "twoToTheDoubleScaleUp", type := .double, accessFlags := 8, slot := 7, constantValue := 0 }, { name := "twoToTheDoubleScaleDown", type := .double, accessFlags := 8, slot := 8, constantValue := 0 }, { name := "$assertionsDisabled", type := .boolean, accessFlags := 4120, slot := 9, constantValue := 0 }]
  methods := #[k2m0, k2m1, k2m2]
  instanceTypes := #[]
  staticTypes := #[.double, .double, .double, .double, .double, .long, .long, .double, .double, .boolean]
  resolved := Array.replicate 460 none
  statics := none }

def pool3 : Array CpInfo := pool [(1, .methodref 2 3), (0, .class_ 4), (0, .nameAndType 5 6), (0, u "java/lang/Object"), (0, u "<init>"), (0, u "()V"), (0, .fieldref 8 9), (0, .class_ 10), (0, .nameAndType 11 12), (0, u "com/example/template_stripper/templatestripper/Region"), (0, u "position"), (0, u "Ljava/lang/String;"), (0, .fieldref 8 14), (0, .nameAndType 15 16), (0, u "firstSegment"), (0, u "I"), (0, .fieldref 8 18), (0, .nameAndType 19 16), (0, u "endSegment"), (0, .fieldref 8 21), (0, .nameAndType 22 16), (0, u "depth"), (6, u "(Ljava/lang/String;III)V"), (6, u "overlaps"), (0, u "(Lcom/example/template_stripper/templatestripper/Region;)Z")] 5

def k3c0 : Code := { maxStack := 2, maxLocals := 5, code := prog_19_method_1_code, exceptionTable := #[], attributes := #[] }
def k3m0 : Method := { name := "<init>", desc := "(Ljava/lang/String;III)V", sig := { parameters := [(.object "java/lang/String"), .int, .int, .int], returnType := none }, accessFlags := 0, code := some k3c0 }
def k3c1 : Code := { maxStack := 2, maxLocals := 2, code := prog_19_method_6_code, exceptionTable := #[], attributes := #[] }
def k3m1 : Method := { name := "overlaps", desc := "(Lcom/example/template_stripper/templatestripper/Region;)Z", sig := { parameters := [(.object "com/example/template_stripper/templatestripper/Region")], returnType := some .boolean }, accessFlags := 0, code := some k3c1 }
/-- com/example/template_stripper/templatestripper/Region -/
def k3 : Class := { plain "com/example/template_stripper/templatestripper/Region" (some 0) with
  accessFlags := 32
  interfaces := #[]
  cf := some (fileOf pool3 8 #[] #[{ accessFlags := 0, nameIndex := 5, descriptorIndex := 29, attributes := #[] }, { accessFlags := 0, nameIndex := 36, descriptorIndex := 37, attributes := #[] }] 32 2 #[] #[{ accessFlags := 18, nameIndex := 11, descriptorIndex := 12, attributes := #[] }, { accessFlags := 18, nameIndex := 15, descriptorIndex := 16, attributes := #[] }, { accessFlags := 18, nameIndex := 19, descriptorIndex := 16, attributes := #[] }, { accessFlags := 18, nameIndex := 22, descriptorIndex := 16, attributes := #[] }])
  fields := #[{ name := "position", type := (.object "java/lang/String"), accessFlags := 18, slot := 0, constantValue := 0 }, { name := "firstSegment", type := .int, accessFlags := 18, slot := 1, constantValue := 0 }, { name := "endSegment", type := .int, accessFlags := 18, slot := 2, constantValue := 0 }, { name := "depth", type := .int, accessFlags := 18, slot := 3, constantValue := 0 }]
  methods := #[k3m0, k3m1]
  instanceTypes := #[(.object "java/lang/String"), .int, .int, .int]
  staticTypes := #[]
  resolved := Array.replicate 43 none
  statics := none }

def pool4 : Array CpInfo := pool [(1, .class_ 2), (0, u "java/io/Serializable"), (0, .class_ 4), (0, u "java/lang/Object")] 2

/-- java/io/Serializable -/
def k4 : Class := { plain "java/io/Serializable" (some 0) with
  accessFlags := 1537
  interfaces := #[]
  cf := some (fileOf pool4 1 #[] #[] 1537 3 #[] #[])
  fields := #[]
  methods := #[]
  instanceTypes := #[]
  staticTypes := #[]
  resolved := Array.replicate 7 none
  statics := none }

def pool5 : Array CpInfo := pool [(1, .class_ 2), (0, u "java/lang/Comparable"), (0, .class_ 4), (0, u "java/lang/Object")] 7

/-- java/lang/Comparable -/
def k5 : Class := { plain "java/lang/Comparable" (some 0) with
  accessFlags := 1537
  interfaces := #[]
  cf := some (fileOf pool5 1 #[] #[] 1537 3 #[] #[])
  fields := #[]
  methods := #[]
  instanceTypes := #[]
  staticTypes := #[]
  resolved := Array.replicate 12 none
  statics := none }

def pool6 : Array CpInfo := pool [(2, .class_ 4), (1, u "java/lang/CharSequence"), (42, .class_ 48), (0, u "java/lang/CharSequence$1CodePointIterator"), (10, .class_ 60), (0, u "java/lang/CharSequence$1CharIterator"), (5, .class_ 67), (0, u "java/lang/Object")] 63

/-- java/lang/CharSequence -/
def k6 : Class := { plain "java/lang/CharSequence" (some 0) with
  accessFlags := 1537
  interfaces := #[]
  cf := some (fileOf pool6 2 #[.nestMembers #[47, 59]] #[] 1537 66 #[] #[])
  fields := #[]
  methods := #[]
  instanceTypes := #[]
  staticTypes := #[]
  resolved := Array.replicate 131 none
  statics := none }

def pool7 : Array CpInfo := pool [(1, .class_ 2), (0, u "java/lang/constant/Constable"), (0, .class_ 4), (0, u "java/lang/Object")] 6

/-- java/lang/constant/Constable -/
def k7 : Class := { plain "java/lang/constant/Constable" (some 0) with
  accessFlags := 1537
  interfaces := #[]
  cf := some (fileOf pool7 1 #[] #[] 1537 3 #[] #[])
  fields := #[]
  methods := #[]
  instanceTypes := #[]
  staticTypes := #[]
  resolved := Array.replicate 11 none
  statics := none }

def pool8 : Array CpInfo := pool [(1, .class_ 2), (0, u "java/lang/constant/ConstantDesc"), (0, .class_ 4), (0, u "java/lang/Object")] 32

/-- java/lang/constant/ConstantDesc -/
def k8 : Class := { plain "java/lang/constant/ConstantDesc" (some 0) with
  accessFlags := 1537
  interfaces := #[]
  cf := some (fileOf pool8 1 #[] #[] 1537 3 #[] #[])
  fields := #[]
  methods := #[]
  instanceTypes := #[]
  staticTypes := #[]
  resolved := Array.replicate 37 none
  statics := none }

def pool9 : Array CpInfo := pool [(2, .class_ 4), (1, u "java/lang/Object"), (0, u "<init>"), (0, u "()V"), (3, .class_ 12), (1, u "java/lang/String"), (0, u "value"), (0, u "[B"), (2, u "coder"), (0, u "B"), (2, u "hash"), (0, u "I"), (2, u "hashIsZero"), (0, u "Z"), (13, u "COMPACT_STRINGS"), (534, .class_ 576), (0, u "java/lang/CharSequence"), (22, u "CASE_INSENSITIVE_ORDER"), (0, u "Ljava/util/Comparator;"), (500, u "serialPersistentFields"), (0, u "[Ljava/io/ObjectStreamField;"), (0, .class_ 1104), (0, u "java/lang/String$CaseInsensitiveComparator"), (1, .class_ 1107), (0, u "java/io/Serializable"), (0, .class_ 1109), (0, u "java/lang/Comparable"), (0, .class_ 1111), (0, u "java/lang/constant/Constable"), (0, .class_ 1113), (0, u "java/lang/constant/ConstantDesc"), (2, u "serialVersionUID"), (0, u "J"), (3, u "REPL"), (0, u "C"), (2, u "LATIN1"), (1, u "UTF16")] 323

def k9m0 : Method := { name := "<init>", desc := "()V", sig := { parameters := [], returnType := none }, accessFlags := 1, code := none }
/-- java/lang/String -/
def k9 : Class := { plain "java/lang/String" (some 0) with
  accessFlags := 49
  interfaces := #[4, 5, 6, 7, 8]
  cf := some (fileOf pool9 10 #[.nestMembers #[1103]] #[{ accessFlags := 1, nameIndex := 5, descriptorIndex := 6, attributes := #[] }] 49 2 #[1106, 1108, 575, 1110, 1112] #[{ accessFlags := 18, nameIndex := 13, descriptorIndex := 14, attributes := #[] }, { accessFlags := 18, nameIndex := 17, descriptorIndex := 18, attributes := #[] }, { accessFlags := 2, nameIndex := 21, descriptorIndex := 22, attributes := #[] }, { accessFlags := 2, nameIndex := 25, descriptorIndex := 26, attributes := #[] }, { accessFlags := 26, nameIndex := 1116, descriptorIndex := 1117, attributes := #[] }, { accessFlags := 24, nameIndex := 40, descriptorIndex := 26, attributes := #[] }, { accessFlags := 26, nameIndex := 1101, descriptorIndex := 1102, attributes := #[] }, { accessFlags := 26, nameIndex := 1121, descriptorIndex := 1122, attributes := #[] }, { accessFlags := 25, nameIndex := 599, descriptorIndex := 600, attributes := #[] }, { accessFlags := 24, nameIndex := 1125, descriptorIndex := 18, attributes := #[] }, { accessFlags := 24, nameIndex := 1127, descriptorIndex := 18, attributes := #[] }])
  fields := #[{ name := "value", type := (.array .byte), accessFlags := 18, slot := 0, constantValue := 0 }, { name := "coder", type := .byte, accessFlags := 18, slot := 1, constantValue := 0 }, { name := "hash", type := .int, accessFlags := 2, slot := 2, constantValue := 0 }, { name := "hashIsZero", type := .boolean, accessFlags := 2, slot := 3, constantValue := 0 }, { name := "serialVersionUID", type := .long, accessFlags := 26, slot := 0, constantValue := 0 }, { name := "COMPACT_STRINGS", type := .boolean, accessFlags := 24, slot := 1, constantValue := 0 }, { name := "serialPersistentFields", type := (.array (.object "java/io/ObjectStreamField")), accessFlags := 26, slot := 2, constantValue := 0 }, { name := "REPL", type := .char, accessFlags := 26, slot := 3, constantValue := 0 }, { name := "CASE_INSENSITIVE_ORDER", type := (.object "java/util/Comparator"), accessFlags := 25, slot := 4, constantValue := 0 }, { name := "LATIN1", type := .byte, accessFlags := 24, slot := 5, constantValue := 0 }, { name := "UTF16", type := .byte, accessFlags := 24, slot := 6, constantValue := 0 }]
  methods := #[k9m0]
  instanceTypes := #[(.array .byte), .byte, .int, .boolean]
  staticTypes := #[.long, .boolean, (.array (.object "java/io/ObjectStreamField")), .char, (.object "java/util/Comparator"), .byte, .byte]
  resolved := Array.replicate 1451 none
  statics := none }

def pool10 : Array CpInfo := pool [(1, u "java/lang/Cloneable"), (0, .class_ 1), (0, u "java/lang/Object"), (0, .class_ 3)] 3

/-- java/lang/Cloneable -/
def k10 : Class := { plain "java/lang/Cloneable" (some 0) with
  accessFlags := 1537
  interfaces := #[]
  cf := some (fileOf pool10 2 #[] #[] 1537 4 #[] #[])
  fields := #[]
  methods := #[]
  instanceTypes := #[]
  staticTypes := #[]
  resolved := Array.replicate 8 none
  statics := none }

/-- the primitive byte -/
def k11 : Class := { plain "byte" none with kind := .primitive 'B', accessFlags := 0x411 }
/-- [B -/
def k12 : Class := { plain "[B" (some 0) with kind := .array 11 .byte, interfaces := #[10, 4], accessFlags := 1041 }

/-- the primitive int -/
def k13 : Class := { plain "int" none with kind := .primitive 'I', accessFlags := 0x411 }
/-- [I -/
def k14 : Class := { plain "[I" (some 0) with kind := .array 13 .int, interfaces := #[10, 4], accessFlags := 1041 }

def heap : Heap := #[]
def classes : Array Class := #[k0, k1, k2, k3, k4, k5, k6, k7, k8, k9, k10, k11, k12, k13, k14]
def interned : List (Array UInt16 × Addr) := []
def slotsUsed : Nat := 0
def theMethod : MethodId := ⟨1, 1⟩
def args0 : Array Value := #[.int 5, .int 7, .int 1, .int 3]
def aboutOver (below : List Frame) : State where
  vm := { classes := classes, interned := interned.toArray }
  heap := heap
  slotsUsed := slotsUsed
  threads := #[{ frames := .invoking theMethod args0 :: below }]
def below0 : List Frame := [.native { method := ⟨0, 0⟩, args := #[] }]
def about1 : State := aboutOver below0
def p0 : Program := .bare "" "" ""
def e0 : Env := launch0.env 0 0 0
theorem w_frames : about1.frames = Frame.invoking theMethod args0 :: below0 := rfl
set_option maxRecDepth 65536 in
theorem w_args : argsFit about1.vm theMethod args0 = true := by decide +kernel
set_option maxRecDepth 65536 in
theorem w_heap : heapFits about1 = true := by decide +kernel
set_option maxRecDepth 65536 in
theorem w_runnable : about1.curStatus? = some .runnable := by decide +kernel
set_option maxRecDepth 65536 in
theorem w_alone : about1.alone = true := by decide +kernel
set_option maxRecDepth 65536 in
theorem w_named : about1.methodNamed? x = some theMethod := by decide +kernel
set_option maxRecDepth 65536 in
theorem w_hears : about1.hears theMethod below0 = true := by decide +kernel
set_option maxRecDepth 65536 in
theorem w_ripe : about1.ripe theMethod args0 below0 = true := by decide +kernel
theorem w_running : about1.status = .running := rfl
set_option maxRecDepth 65536 in
theorem w_room : about1.hasRoom e0.platform room_1 = true :=
  launch0.hasRoom_least _ room_1 (by decide +kernel) (by decide +kernel) (by decide +kernel) (by decide +kernel) (by decide +kernel) (by decide +kernel)
theorem allAtoms_all (ts : List Jvm.Cond) (a : Array Jvm.Value) (st : Jvm.State) : (allAtoms ts).before a st = ts.all (fun c => c.before a st) := by
  induction ts with
  | nil => rfl
  | cons c t ih =>
    show (Jvm.Cond.and c (allAtoms t)).before a st = _
    rw [Jvm.Cond.before_and, ih, List.all_cons]
def words1 : List Jvm.Cond := Jvm.Cond.code x code maxLocals ret :: tables_1
/-- a 'code' word, met by the world's own term for the bytes: nothing is compared byte by byte -/
theorem code_word {y : MethodName} {bytes : ByteArray} {mx : Nat} {rt : Option FieldType} {a : Array Value} {s : State} {m : MethodId} {meth : Method} {c : Code} (h1 : s.methodNamed? y = some m) (h2 : s.vm.method? m = some meth) (h3 : meth.code = some c) (h4 : c.code = bytes)
    (h5 : (c.maxLocals == mx && c.exceptionTable.isEmpty && decide (c.maxStack ≤ mostOperands) && decide (meth.sig.returnType = rt) && !meth.locks && decide (parseMethodDescriptor y.desc = some meth.sig)) = true) : (Jvm.Cond.code y bytes mx rt).before a s = true := by
  simp only [Bool.and_eq_true, beq_iff_eq, Bool.not_eq_true', decide_eq_true_eq] at h5
  obtain ⟨⟨⟨⟨⟨g1, g2⟩, g3⟩, g4⟩, g5⟩, g6⟩ := h5
  simp [Cond.before, Cond.holds, Cond.value, h1, h2, h3, h4, g1, g2, g3, g4, g5, g6]
def isCode : Jvm.Cond → Bool
  | .code _ _ _ _ => true
  | _ => false
theorem all_split {L : List Jvm.Cond} {P : Jvm.Cond → Bool} (h1 : L.all (fun c => isCode c || P c) = true) (h2 : ∀ c ∈ L.filter isCode, P c = true) : L.all P = true := by
  refine List.all_eq_true.mpr fun c hc => ?_
  have h := List.all_eq_true.mp h1 c hc
  rcases Bool.eq_false_or_eq_true (isCode c) with hi | hi
  · exact h2 c (List.mem_filter.mpr ⟨hc, hi⟩)
  · simpa [hi] using h
set_option maxRecDepth 65536 in
theorem w_c0 : (Jvm.Cond.code x code maxLocals ret).before args0 about1 = true := code_word (m := ⟨1, 1⟩) (meth := k1m1) (c := k1c1) (by decide +kernel) rfl rfl rfl (by decide +kernel)
set_option maxRecDepth 65536 in
theorem w_c1 : (Jvm.Cond.code ({ cls := "java/lang/Math", name := "min", desc := "(II)I" } : Jvm.MethodName) jdk_29_method_69_code (2 : Nat) (Option.some Jvm.ClassFile.FieldType.int)).before args0 about1 = true := code_word (m := ⟨2, 2⟩) (meth := k2m2) (c := k2c2) (by decide +kernel) rfl rfl rfl (by decide +kernel)
set_option maxRecDepth 65536 in
theorem w_c2 : (Jvm.Cond.code ({ cls := "java/lang/Math", name := "max", desc := "(II)I" } : Jvm.MethodName) jdk_29_method_65_code (2 : Nat) (Option.some Jvm.ClassFile.FieldType.int)).before args0 about1 = true := code_word (m := ⟨2, 1⟩) (meth := k2m1) (c := k2c1) (by decide +kernel) rfl rfl rfl (by decide +kernel)
set_option maxRecDepth 65536 in
theorem w_c3 : (Jvm.Cond.code ({ cls := "com/example/template_stripper/templatestripper/Region", name := "<init>", desc := "(Ljava/lang/String;III)V" } : Jvm.MethodName) prog_19_method_1_code (5 : Nat) (Option.none : Option Jvm.ClassFile.FieldType)).before args0 about1 = true := code_word (m := ⟨3, 0⟩) (meth := k3m0) (c := k3c0) (by decide +kernel) rfl rfl rfl (by decide +kernel)
set_option maxRecDepth 65536 in
theorem w_c4 : (Jvm.Cond.code ({ cls := "java/lang/Object", name := "<init>", desc := "()V" } : Jvm.MethodName) object_method_1_code (1 : Nat) (Option.none : Option Jvm.ClassFile.FieldType)).before args0 about1 = true := code_word (m := ⟨0, 0⟩) (meth := k0m0) (c := k0c0) (by decide +kernel) rfl rfl rfl (by decide +kernel)
set_option maxRecDepth 65536 in
theorem w_c5 : (Jvm.Cond.code ({ cls := "com/example/template_stripper/templatestripper/Region", name := "overlaps", desc := "(Lcom/example/template_stripper/templatestripper/Region;)Z" } : Jvm.MethodName) prog_19_method_6_code (2 : Nat) (Option.some Jvm.ClassFile.FieldType.boolean)).before args0 about1 = true := code_word (m := ⟨3, 1⟩) (meth := k3m1) (c := k3c1) (by decide +kernel) rfl rfl rfl (by decide +kernel)
def codes1 : List Jvm.Cond := [Jvm.Cond.code x code maxLocals ret, Jvm.Cond.code ({ cls := "java/lang/Math", name := "min", desc := "(II)I" } : Jvm.MethodName) jdk_29_method_69_code (2 : Nat) (Option.some Jvm.ClassFile.FieldType.int), Jvm.Cond.code ({ cls := "java/lang/Math", name := "max", desc := "(II)I" } : Jvm.MethodName) jdk_29_method_65_code (2 : Nat) (Option.some Jvm.ClassFile.FieldType.int), Jvm.Cond.code ({ cls := "com/example/template_stripper/templatestripper/Region", name := "<init>", desc := "(Ljava/lang/String;III)V" } : Jvm.MethodName) prog_19_method_1_code (5 : Nat) (Option.none : Option Jvm.ClassFile.FieldType), Jvm.Cond.code ({ cls := "java/lang/Object", name := "<init>", desc := "()V" } : Jvm.MethodName) object_method_1_code (1 : Nat) (Option.none : Option Jvm.ClassFile.FieldType), Jvm.Cond.code ({ cls := "com/example/template_stripper/templatestripper/Region", name := "overlaps", desc := "(Lcom/example/template_stripper/templatestripper/Region;)Z" } : Jvm.MethodName) prog_19_method_6_code (2 : Nat) (Option.some Jvm.ClassFile.FieldType.boolean)]
set_option maxRecDepth 65536 in
theorem codes_eq : words1.filter isCode = codes1 := rfl
theorem w_codes : ∀ c ∈ words1.filter isCode, c.before args0 about1 = true := by
  rw [codes_eq]
  intro c hc
  simp only [codes1, List.mem_cons, List.not_mem_nil, or_false] at hc
  rcases hc with rfl | rfl | rfl | rfl | rfl | rfl
  · exact w_c0
  · exact w_c1
  · exact w_c2
  · exact w_c3
  · exact w_c4
  · exact w_c5
set_option maxRecDepth 65536 in
theorem w_t1 : (words1.take 24).all (fun c => isCode c || c.before args0 about1) = true := by decide +kernel
set_option maxRecDepth 65536 in
theorem w_t2 : (words1.drop 24).all (fun c => isCode c || c.before args0 about1) = true := by decide +kernel
theorem w_tables : (allAtoms (Jvm.Cond.code x code maxLocals ret :: tables_1)).before args0 about1 = true := by
  rw [allAtoms_all]
  show words1.all (fun c => c.before args0 about1) = true
  refine all_split ?_ w_codes
  rw [← List.take_append_drop 24 words1, List.all_append, w_t1, w_t2]
  rfl
set_option maxRecDepth 65536 in
theorem w_case : (Jvm.Cond.and given_1 narrow_1).before args0 about1 = true := by decide +kernel
theorem w_applies : (headSpec (Jvm.Cond.code x code maxLocals ret :: tables_1) room_1).applies x e0.platform about1 = true :=
  (Spec.applies_iff w_frames).mpr ⟨w_running, w_runnable, w_alone, w_named, w_hears, w_ripe, w_room, w_tables⟩
theorem atStart : AtStart classFile x code maxLocals ret World_1 tables_1 room_1 Calls_1 rest_1 Pre_1 launch0 p0 e0 about1 theMethod args0 below0 :=
  ⟨lists_1, trivial, launch0.admits_env _ _ _, launch0.least_env, fairChoices_fair.cas, fairChoices_fair.clock, w_frames, w_args, w_heap, w_applies, trivial, trivial, w_case⟩
end start1
theorem witness_1 : WitnessClaimed_1 := ⟨start1.p0, start1.e0, start1.about1, start1.theMethod, start1.args0, start1.below0, start1.atStart⟩
end Jvm.Pilot.@@N@@
