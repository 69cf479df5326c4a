import JvmDerived
import JvmDerived.Pilot.@@N@@Statement
import JvmDerived.Pilot.@@N@@Code
set_option linter.unusedVariables false
set_option linter.unusedSimpArgs false
@@BLOCK:NumsL.lean.txt@@
namespace Jvm.RoadKit
open Sem ClassFile Op Lib Jvm.Stand Jvm.Free Jvm.LawKit
section New
variable {p : Program} {l : Launch} {e : Env} {R : Room} {s : State} {m : MethodId} {args : Array Value} {below : List Frame} {meth : Method} {c : Code} {T : State} {locs : List Loc} {cells slots : Nat}
theorem retI (X : Stand p l e R s m args below meth c T locs cells slots) (hx : p.tables.exec = Jvm.exec) {pc : Nat} {Ls : Array Slot} {z : Int32} {rest : List Value} (hret : meth.sig.returnType = some .int) (hd : decode c.code pc = .ok (.ireturn, 1)) {fs : List Frame}
    (hl : ∀ (f : JFrame) (acts : List Action), f.method = m → f.locked = none → f.entered = [] → (doReturn e (T.setTop f) acts (some (.int z))).1 = T.setFrames fs) : Steps p.tables e below (T.setTop (mkF m pc Ls (.int z :: rest))) (T.setFrames fs) := by
  have hm' : T.vm.method? m = some meth := X.method'
  have hn : narrow .int (.int z) = .int z := rfl
  show Steps p.tables e below (T.setTop { method := m, pc := pc, locals := Ls, stack := _ :: rest, locked := none }) _
  jvm_step X.here [X.here.top, hx, hd, hm', hret, hn]
  first | (intro acts; rw [hl _ acts rfl rfl rfl]) | rw [hl _ _ rfl rfl rfl]
  exact Steps.refl _
end New
end Jvm.RoadKit
namespace Jvm.Pilot.@@N@@
open Jvm Jvm.ClassFile Sem Op Lib Jvm.Free Jvm.Stand Jvm.LawKit Jvm.RoadKit Bundle Jvm.Pilot.@@N@@.Jvm.D
open Jvm.Free.XT (ushr ushrL cmpL)
/-- from the frame g over the state T the run comes to a return of which Q holds; K cells and N slots are made at the most -/
def Go (p : Program) (e : Env) (below : List Frame) (s : State) (Q : Option Value → Heap → List Loc → Prop) (K N : Nat) (T : State) (g : JFrame) : Prop :=
  ∃ s₂ o, Steps p.tables e below (T.setTop g) s₂ ∧ s₂.status = .running ∧ Ended s₂ below o ∧ ∃ v L, o = .returned v ∧ Q v s₂.heap L ∧ FrameEnd s o s₂ L K N
section Own
variable {p : Program} {l : Launch} {e : Env} {R : Room} {s : State} {m : MethodId} {args : Array Value} {below : List Frame} {meth : Method} {c : Code} {T T' : State} {locs : List Loc} {cells slots K N : Nat} {Q : Option Value → Heap → List Loc → Prop} {g : JFrame}
theorem Go.st (g' : JFrame) (k : ∀ t, Steps p.tables e below (T'.setTop g') t → Steps p.tables e below (T.setTop g) t) (h : Go p e below s Q K N T' g') : Go p e below s Q K N T g := by
  obtain ⟨s₂, o, h1, h2⟩ := h
  exact ⟨s₂, o, k _ h1, h2⟩
theorem Go.of_eq {g' : JFrame} (q : g = g') (h : Go p e below s Q K N T g') : Go p e below s Q K N T g := q ▸ h
theorem Go.retZ (X : Stand p l e R s m args below meth c T locs cells slots) (hx : p.tables.exec = Jvm.exec) (hlk : meth.locks = false) {pc : Nat} {Ls : Array Slot} {z : Int32} {rest : List Value} {t : FieldType} (ht : t = .boolean ∨ t = .byte ∨ t = .char ∨ t = .short) (hret : meth.sig.returnType = some t) (hd : decode c.code pc = .ok (.ireturn, 1))
    (hq : Q (some (.int (nar t z))) T.heap locs) (hk : cells ≤ K) (hn : slots ≤ N) : Go p e below s Q K N T (mkF m pc Ls (.int z :: rest)) := by
  obtain ⟨fs, hr, hrun, hended, hW, hsame⟩ := X.leave (v := some (.int (nar t z))) (fun h => by rw [hret] at h; cases h) hlk
  exact ⟨_, _, retN X hx hret ht hd hr, hrun, hended, _, _, rfl, hq, ⟨_, rfl⟩, hW, hsame.mono hk hn⟩
theorem Go.retI (X : Stand p l e R s m args below meth c T locs cells slots) (hx : p.tables.exec = Jvm.exec) (hlk : meth.locks = false) {pc : Nat} {Ls : Array Slot} {z : Int32} {rest : List Value} (hret : meth.sig.returnType = some .int) (hd : decode c.code pc = .ok (.ireturn, 1))
    (hq : Q (some (.int z)) T.heap locs) (hk : cells ≤ K) (hn : slots ≤ N) : Go p e below s Q K N T (mkF m pc Ls (.int z :: rest)) := by
  obtain ⟨fs, hr, hrun, hended, hW, hsame⟩ := X.leave (v := some (.int z)) (fun h => by rw [hret] at h; cases h) hlk
  exact ⟨_, _, RoadKit.retI X hx hret hd hr, hrun, hended, _, _, rfl, hq, ⟨_, rfl⟩, hW, hsame.mono hk hn⟩
theorem Go.retJ (X : Stand p l e R s m args below meth c T locs cells slots) (hx : p.tables.exec = Jvm.exec) (hlk : meth.locks = false) {pc : Nat} {Ls : Array Slot} {z : Int64} (hret : meth.sig.returnType = some .long) (hd : decode c.code pc = .ok (.lreturn, 1))
    (hq : Q (some (.long z)) T.heap locs) (hk : cells ≤ K) (hn : slots ≤ N) : Go p e below s Q K N T (mkF m pc Ls [.long z]) := by
  obtain ⟨fs, hr, hrun, hended, hW, hsame⟩ := X.leave (v := some (.long z)) (fun h => by rw [hret] at h; cases h) hlk
  exact ⟨_, _, X.lreturnOut hx hret hd hr, hrun, hended, _, _, rfl, hq, ⟨_, rfl⟩, hW, hsame.mono hk hn⟩
theorem Go.retV (X : Stand p l e R s m args below meth c T locs cells slots) (hx : p.tables.exec = Jvm.exec) (hlk : meth.locks = false) {pc : Nat} {Ls : Array Slot} (hret : meth.sig.returnType = none) (hd : decode c.code pc = .ok (.return_, 1))
    (hq : Q none T.heap locs) (hk : cells ≤ K) (hn : slots ≤ N) : Go p e below s Q K N T (mkF m pc Ls []) := by
  obtain ⟨fs, hr, hrun, hended, hW, hsame⟩ := X.leave (v := none) (fun _ => rfl) hlk
  exact ⟨_, _, X.returnOut hx hret hd hr, hrun, hended, _, _, rfl, hq, ⟨_, rfl⟩, hW, hsame.mono hk hn⟩
end Own
theorem own_c1 {x y : Int64} (h : y < x) : cmpL x y = 1 := by unfold cmpL; rw [if_pos h]
theorem own_c0 {x y : Int64} (h : x = y) : cmpL x y = 0 := by unfold cmpL; rw [if_neg (by subst h; exact Int64.lt_irrefl), if_pos h]
theorem own_cm {x y : Int64} (h : x < y) : cmpL x y = -1 := by unfold cmpL; rw [if_neg (Int64.lt_asymm h), if_neg (Int64.ne_of_lt h)]
theorem own_tri (x y : Int64) : x < y ∨ x = y ∨ y < x := by
  rcases Int.lt_trichotomy x.toInt y.toInt with h | h | h
  · exact Or.inl (Int64.lt_iff_toInt_lt.mpr h)
  · exact Or.inr (Or.inl (Int64.toInt_inj.mp h))
  · exact Or.inr (Or.inr (Int64.lt_iff_toInt_lt.mpr h))
theorem own_llT {x y : Int64} (h : x < y) : ifCond.holds .lt (cmpL x y) = true ∧ ifCond.holds .ge (cmpL x y) = false := by rw [own_cm h]; decide
theorem own_llF {x y : Int64} (h : ¬ x < y) : ifCond.holds .lt (cmpL x y) = false ∧ ifCond.holds .ge (cmpL x y) = true := by
  rcases own_tri x y with q | q | q
  · exact absurd q h
  · rw [own_c0 q]; decide
  · rw [own_c1 q]; decide
theorem own_lgT {x y : Int64} (h : y < x) : ifCond.holds .gt (cmpL x y) = true ∧ ifCond.holds .le (cmpL x y) = false := by rw [own_c1 h]; decide
theorem own_lgF {x y : Int64} (h : ¬ y < x) : ifCond.holds .gt (cmpL x y) = false ∧ ifCond.holds .le (cmpL x y) = true := by
  rcases own_tri x y with q | q | q
  · rw [own_cm q]; decide
  · rw [own_c0 q]; decide
  · exact absurd q h
theorem own_leT {x y : Int64} (h : x = y) : ifCond.holds .eq (cmpL x y) = true ∧ ifCond.holds .ne (cmpL x y) = false := by rw [own_c0 h]; decide
theorem own_leF {x y : Int64} (h : ¬ x = y) : ifCond.holds .eq (cmpL x y) = false ∧ ifCond.holds .ne (cmpL x y) = true := by
  rcases own_tri x y with q | q | q
  · rw [own_cm q]; decide
  · exact absurd q h
  · rw [own_c1 q]; decide
theorem own_chr (x : Int32) : 0 ≤ (x.toUInt32.toUInt16.toUInt32.toInt32).toInt ∧ (x.toUInt32.toUInt16.toUInt32.toInt32).toInt < 65536 := by
  have h : ∀ u : UInt16, (u.toUInt32.toInt32).toInt = u.toNat := fun u => by
    have hu := u.toNat_lt
    show ((u.toUInt32).toBitVec).toInt = _
    have hm : (u.toUInt32).toBitVec.toNat = u.toNat := by
      show (u.toUInt32).toNat = _
      simp
    rw [BitVec.toInt_eq_toNat_cond, hm, if_pos (by omega)]
  have h2 := (x.toUInt32.toUInt16).toNat_lt
  rw [h]; omega
theorem own_small (n : Nat) (c : Int32) (h0 : 0 ≤ c.toInt) (h1 : c.toInt < n) (hn : n ≤ 2147483647) : ∃ k : Fin n, c = Int32.ofNat k.val := by
  refine ⟨⟨c.toInt.toNat, by omega⟩, Int32.toInt_inj.mp ?_⟩
  rw [Int32.toInt_ofNat_of_lt (by show c.toInt.toNat < _; omega)]
  show _ = ((c.toInt.toNat : Nat) : Int)
  omega
theorem pn_0 : plainName "com/example/nimblepack/nimblepack/Lz4FrameOptions" = true := by first | (simp [plainName, overriddenIn]; done) | decide +kernel
theorem d1_0 : decode prog_14_method_12_code 0 = .ok (.iconst 3, 1) := by decide +kernel
theorem d1_1 : decode prog_14_method_12_code 1 = .ok (.iload_n 0, 1) := by decide +kernel
theorem d1_2 : decode prog_14_method_12_code 2 = .ok (.bipush 8, 2) := by decide +kernel
theorem d1_4 : decode prog_14_method_12_code 4 = .ok (.iand, 1) := by decide +kernel
theorem d1_5 : decode prog_14_method_12_code 5 = .ok (.ifCond .eq 8, 3) := by decide +kernel
theorem d1_8 : decode prog_14_method_12_code 8 = .ok (.bipush 8, 2) := by decide +kernel
theorem d1_10 : decode prog_14_method_12_code 10 = .ok (.goto 4, 3) := by decide +kernel
theorem d1_13 : decode prog_14_method_12_code 13 = .ok (.iconst 0, 1) := by decide +kernel
theorem d1_14 : decode prog_14_method_12_code 14 = .ok (.iadd, 1) := by decide +kernel
theorem d1_15 : decode prog_14_method_12_code 15 = .ok (.iload_n 0, 1) := by decide +kernel
theorem d1_16 : decode prog_14_method_12_code 16 = .ok (.iconst 1, 1) := by decide +kernel
theorem d1_17 : decode prog_14_method_12_code 17 = .ok (.iand, 1) := by decide +kernel
theorem d1_18 : decode prog_14_method_12_code 18 = .ok (.ifCond .eq 7, 3) := by decide +kernel
theorem d1_21 : decode prog_14_method_12_code 21 = .ok (.iconst 4, 1) := by decide +kernel
theorem d1_22 : decode prog_14_method_12_code 22 = .ok (.goto 4, 3) := by decide +kernel
theorem d1_25 : decode prog_14_method_12_code 25 = .ok (.iconst 0, 1) := by decide +kernel
theorem d1_26 : decode prog_14_method_12_code 26 = .ok (.iadd, 1) := by decide +kernel
theorem d1_27 : decode prog_14_method_12_code 27 = .ok (.ireturn, 1) := by decide +kernel
theorem ef_1 (m : MethodId) (p0 : Int32) : entryFrame m #[(.int p0)] 1 = (mkF m 0 #[.val (.int p0)] []) := by first | (simp [entryFrame, mkF, argsToLocals, Value.category]; done) | rfl
def j1_5_S0 (p0 : Int32) : Int32 := (if (p0 &&& (8 : Int32)) = (0 : Int32) then (0 : Int32) else (8 : Int32))
def j1_18_S0 (p0 : Int32) : Int32 := (if (p0 &&& (1 : Int32)) = (0 : Int32) then (0 : Int32) else (4 : Int32))
def f_1 (p0 : Int32) : Int32 := (((3 : Int32) + (j1_5_S0 p0)) + (j1_18_S0 p0))
def Q_1 (p0 : Int32) (h0 : Heap) (n0 : Nat) (v : Option Value) (h : Heap) (L : List Loc) : Prop := v = some (.int (f_1 p0)) ∧ Fr n0 L ∧ h = h0
set_option maxRecDepth 65536 in
set_option maxHeartbeats 40000000 in
theorem rm_1 (l : Launch) (Z : State) (a0 : Array Value) (hw : ∀ d ∈ tables_1, d.before a0 Z = true) (ws : List Jvm.Cond) (p0 : Int32) (h0 : Heap) (n0 : Nat) (Z0 : n0 ≤ h0.size) :
    MetFree l (⟨"com/example/nimblepack/nimblepack/Lz4FrameOptions", "descriptorLength", "(B)I"⟩ : MethodName) (head1 (Jvm.Cond.code (⟨"com/example/nimblepack/nimblepack/Lz4FrameOptions", "descriptorLength", "(B)I"⟩ : MethodName) prog_14_method_12_code 1 (some .int) :: ws) ({ frames := 0, cells := 0, slots := 0, locals := 0 } : Room)) (fun a U => a = #[(.int p0)] ∧ Z.Warmed39 U.vm ∧ U.heap = h0) (fun _ _ _ _ _ => True) (fun _ U o U' => ∃ v L, o = .returned v ∧ Q_1 p0 h0 n0 v U'.heap L ∧ FrameEnd U o U' L ({ frames := 0, cells := 0, slots := 0, locals := 0 } : Room).cells ({ frames := 0, cells := 0, slots := 0, locals := 0 } : Room).slots) := by
  refine MetFree.of_bodySF (plainFor_of_name pn_0) hisR ?_
  intro p e s m args below meth c s₁ Bd hml0 hP hK
  obtain ⟨rfl, hZ, hh⟩ := hP
  have hx := Bd.exec
  have hby := Bd.bytes
  have hml : c.maxLocals = 1 := hml0
  have hown : s.vm.findClass "com/example/nimblepack/nimblepack/Lz4FrameOptions" = some m.cls := findClass_of_methodNamed Bd.named
  have X0 : Stand p l e ({ frames := 0, cells := 0, slots := 0, locals := 0 } : Room) s m #[(.int p0)] below meth c s₁ [] 0 0 := Stand.of_body Bd
  have e0 : s₁.heap = h0 := by rw [← hh, Bd.state]; rfl
  have N0 := Fr.nil n0
  show Go p e below s (Q_1 p0 h0 n0) 0 0 s₁ (entryFrame m #[(.int p0)] 1)
  refine Go.of_eq (ef_1 m p0) ?_
  refine Go.st (mkF m 1 #[.val (.int p0)] [(.int (3 : Int32))]) (fun _ k => XS.iconst X0.here hx rfl (hb hby d1_0) k) ?_
  refine Go.st (mkF m 2 #[.val (.int p0)] [(.int p0), (.int (3 : Int32))]) (fun _ k => XS.iloadN X0.here hx rfl (hb hby d1_1) rfl k) ?_
  refine Go.st (mkF m 4 #[.val (.int p0)] [(.int (8 : Int32)), (.int p0), (.int (3 : Int32))]) (fun _ k => XS.bipush X0.here hx rfl (hb hby d1_2) k) ?_
  refine Go.st (mkF m 5 #[.val (.int p0)] [(.int (p0 &&& (8 : Int32))), (.int (3 : Int32))]) (fun _ k => XS.iand X0.here hx rfl (hb hby d1_4) rfl k) ?_
  have J5 : Go p e below s (Q_1 p0 h0 n0) 0 0 s₁ (mkF m 14 #[.val (.int p0)] [(.int (j1_5_S0 p0)), (.int (3 : Int32))]) := by
    refine Go.st (mkF m 15 #[.val (.int p0)] [(.int ((3 : Int32) + (j1_5_S0 p0)))]) (fun _ k => XS.iadd X0.here hx rfl (hb hby d1_14) rfl k) ?_
    refine Go.st (mkF m 16 #[.val (.int p0)] [(.int p0), (.int ((3 : Int32) + (j1_5_S0 p0)))]) (fun _ k => XS.iloadN X0.here hx rfl (hb hby d1_15) rfl k) ?_
    refine Go.st (mkF m 17 #[.val (.int p0)] [(.int (1 : Int32)), (.int p0), (.int ((3 : Int32) + (j1_5_S0 p0)))]) (fun _ k => XS.iconst X0.here hx rfl (hb hby d1_16) k) ?_
    refine Go.st (mkF m 18 #[.val (.int p0)] [(.int (p0 &&& (1 : Int32))), (.int ((3 : Int32) + (j1_5_S0 p0)))]) (fun _ k => XS.iand X0.here hx rfl (hb hby d1_17) rfl k) ?_
    have J18 : Go p e below s (Q_1 p0 h0 n0) 0 0 s₁ (mkF m 26 #[.val (.int p0)] [(.int (j1_18_S0 p0)), (.int ((3 : Int32) + (j1_5_S0 p0)))]) := by
      refine Go.st (mkF m 27 #[.val (.int p0)] [(.int (((3 : Int32) + (j1_5_S0 p0)) + (j1_18_S0 p0)))]) (fun _ k => XS.iadd X0.here hx rfl (hb hby d1_26) rfl k) ?_
      exact Go.retI X0 hx Bd.notSynchronized Bd.returns (hb hby d1_27) ⟨congrArg (fun z => some (Value.int z)) (show (((3 : Int32) + (j1_5_S0 p0)) + (j1_18_S0 p0)) = f_1 p0 from by unfold f_1; first | done | rfl), N0, e0⟩ (by decide) (by decide)
    by_cases hc18_2 : (p0 &&& (1 : Int32)) = (0 : Int32)
    ·
      refine Go.st (mkF m 25 #[.val (.int p0)] [(.int ((3 : Int32) + (j1_5_S0 p0)))]) (fun _ k => XS.ifYes X0.here hx rfl (pc0 := 18) (pc' := 25) rfl (hb hby d1_18) rfl ((if0 _ _).trans (teq hc18_2).1) (by decide) (by decide) k) ?_
      refine Go.st (mkF m 26 #[.val (.int p0)] [(.int (0 : Int32)), (.int ((3 : Int32) + (j1_5_S0 p0)))]) (fun _ k => XS.iconst X0.here hx rfl (hb hby d1_25) k) ?_
      rw [show (j1_18_S0 p0) = (0 : Int32) from by unfold j1_18_S0; rw [if_pos hc18_2]] at J18
      exact J18
    ·
      refine Go.st (mkF m 21 #[.val (.int p0)] [(.int ((3 : Int32) + (j1_5_S0 p0)))]) (fun _ k => XS.ifNo X0.here hx rfl (hb hby d1_18) rfl ((if0 _ _).trans (feq hc18_2).1) k) ?_
      refine Go.st (mkF m 22 #[.val (.int p0)] [(.int (4 : Int32)), (.int ((3 : Int32) + (j1_5_S0 p0)))]) (fun _ k => XS.iconst X0.here hx rfl (hb hby d1_21) k) ?_
      refine Go.st (mkF m 26 #[.val (.int p0)] [(.int (4 : Int32)), (.int ((3 : Int32) + (j1_5_S0 p0)))]) (fun _ k => XS.goto X0.here hx rfl (pc0 := 22) (pc' := 26) rfl (hb hby d1_22) (by decide) (by decide) k) ?_
      rw [show (j1_18_S0 p0) = (4 : Int32) from by unfold j1_18_S0; rw [if_neg hc18_2]] at J18
      exact J18
  by_cases hc5_1 : (p0 &&& (8 : Int32)) = (0 : Int32)
  ·
    refine Go.st (mkF m 13 #[.val (.int p0)] [(.int (3 : Int32))]) (fun _ k => XS.ifYes X0.here hx rfl (pc0 := 5) (pc' := 13) rfl (hb hby d1_5) rfl ((if0 _ _).trans (teq hc5_1).1) (by decide) (by decide) k) ?_
    refine Go.st (mkF m 14 #[.val (.int p0)] [(.int (0 : Int32)), (.int (3 : Int32))]) (fun _ k => XS.iconst X0.here hx rfl (hb hby d1_13) k) ?_
    rw [show (j1_5_S0 p0) = (0 : Int32) from by unfold j1_5_S0; rw [if_pos hc5_1]] at J5
    exact J5
  ·
    refine Go.st (mkF m 8 #[.val (.int p0)] [(.int (3 : Int32))]) (fun _ k => XS.ifNo X0.here hx rfl (hb hby d1_5) rfl ((if0 _ _).trans (feq hc5_1).1) k) ?_
    refine Go.st (mkF m 10 #[.val (.int p0)] [(.int (8 : Int32)), (.int (3 : Int32))]) (fun _ k => XS.bipush X0.here hx rfl (hb hby d1_8) k) ?_
    refine Go.st (mkF m 14 #[.val (.int p0)] [(.int (8 : Int32)), (.int (3 : Int32))]) (fun _ k => XS.goto X0.here hx rfl (pc0 := 10) (pc' := 14) rfl (hb hby d1_10) (by decide) (by decide) k) ?_
    rw [show (j1_5_S0 p0) = (8 : Int32) from by unfold j1_5_S0; rw [if_neg hc5_1]] at J5
    exact J5
theorem pd_0 : parseMethodDescriptor "(B)I" = some ⟨[.byte], some .int⟩ := by decide +kernel
theorem pn_1 : plainName "com/example/nimblepack/nimblepack/Lz4FrameOptionsDescriptorLengthPinLaw" = true := by first | (simp [plainName, overriddenIn]; done) | decide +kernel
theorem ef_0 (m : MethodId) (p0 : Int32) : entryFrame m #[(.int p0)] maxLocals = (mkF m 0 #[.val (.int p0), .unset, .unset, .unset, .unset, .unset] []) := by first | (simp [entryFrame, mkF, argsToLocals, Value.category, maxLocals]; done) | rfl
def j0_7_S0 (p0 : Int32) : Int32 := (if (p0 &&& (8 : Int32)) = (0 : Int32) then (0 : Int32) else (1 : Int32))
def j0_19_S0 (p0 : Int32) : Int32 := (if (p0 &&& (1 : Int32)) = (0 : Int32) then (0 : Int32) else (1 : Int32))
def j0_29_L4 (p0 : Int32) : Int32 := (if (j0_7_S0 p0) = (0 : Int32) then (if (j0_19_S0 p0) = (0 : Int32) then (3 : Int32) else (7 : Int32)) else (if (j0_19_S0 p0) = (0 : Int32) then (11 : Int32) else (15 : Int32)))
def f_0 (p0 : Int32) : Int32 := (if (f_1 (p0.toInt8.toInt32)) = (j0_29_L4 p0) then (if (15 : Int32) < (f_1 (p0.toInt8.toInt32)) then (0 : Int32) else (1 : Int32)) else (0 : Int32))
def Q_0 (p0 : Int32) (h0 : Heap) (n0 : Nat) (v : Option Value) (h : Heap) (L : List Loc) : Prop := v = some (.int (f_0 p0)) ∧ Fr n0 L ∧ h = h0
set_option maxRecDepth 65536 in
set_option maxHeartbeats 40000000 in
theorem rm_0 (l : Launch) (Z : State) (a0 : Array Value) (hw : ∀ d ∈ tables_1, d.before a0 Z = true) (ws : List Jvm.Cond) (p0 : Int32) (h0 : Heap) (n0 : Nat) (Z0 : n0 ≤ h0.size) :
    MetFree l x (head1 (Jvm.Cond.code x code maxLocals ret :: ws) room_1) (fun a U => a = #[(.int p0)] ∧ Z.Warmed39 U.vm ∧ U.heap = h0) (fun _ _ _ _ _ => True) (fun _ U o U' => ∃ v L, o = .returned v ∧ Q_0 p0 h0 n0 v U'.heap L ∧ FrameEnd U o U' L 0 0) := by
  refine MetFree.of_bodySF (plainFor_of_name pn_1) hisR ?_
  intro p e s m args below meth c s₁ Bd hml0 hP hK
  obtain ⟨rfl, hZ, hh⟩ := hP
  have hx := Bd.exec
  have hby := Bd.bytes
  have hml : c.maxLocals = 6 := hml0
  have hown : s.vm.findClass "com/example/nimblepack/nimblepack/Lz4FrameOptionsDescriptorLengthPinLaw" = some m.cls := findClass_of_methodNamed Bd.named
  have X0 : Stand p l e room_1 s m #[(.int p0)] below meth c s₁ [] 0 0 := Stand.of_body Bd
  have e0 : s₁.heap = h0 := by rw [← hh, Bd.state]; rfl
  have N0 := Fr.nil n0
  show Go p e below s (Q_0 p0 h0 n0) 0 0 s₁ (entryFrame m #[(.int p0)] maxLocals)
  refine Go.of_eq (ef_0 m p0) ?_
  refine Go.st (mkF m 1 #[.val (.int p0), .unset, .unset, .unset, .unset, .unset] [(.int p0)]) (fun _ k => XS.iloadN X0.here hx rfl (hb hby at_0) rfl k) ?_
  refine Go.st (mkF m 2 #[.val (.int p0), .unset, .unset, .unset, .unset, .unset] [(.int (p0.toInt8.toInt32))]) (fun _ k => XT.i2b X0.here hx rfl (hb hby at_1) rfl k) ?_
  refine Go.st (mkF m 3 #[.val (.int p0), .val (.int (p0.toInt8.toInt32)), .unset, .unset, .unset, .unset] []) (fun _ k => XS.istoreN X0.here hx rfl (hb hby at_2) rfl (l' := #[.val (.int p0), .val (.int (p0.toInt8.toInt32)), .unset, .unset, .unset, .unset]) rfl k) ?_
  refine Go.st (mkF m 4 #[.val (.int p0), .val (.int (p0.toInt8.toInt32)), .unset, .unset, .unset, .unset] [(.int p0)]) (fun _ k => XS.iloadN X0.here hx rfl (hb hby at_3) rfl k) ?_
  refine Go.st (mkF m 6 #[.val (.int p0), .val (.int (p0.toInt8.toInt32)), .unset, .unset, .unset, .unset] [(.int (8 : Int32)), (.int p0)]) (fun _ k => XS.bipush X0.here hx rfl (hb hby at_4) k) ?_
  refine Go.st (mkF m 7 #[.val (.int p0), .val (.int (p0.toInt8.toInt32)), .unset, .unset, .unset, .unset] [(.int (p0 &&& (8 : Int32)))]) (fun _ k => XS.iand X0.here hx rfl (hb hby at_6) rfl k) ?_
  have J7 : Go p e below s (Q_0 p0 h0 n0) 0 0 s₁ (mkF m 15 #[.val (.int p0), .val (.int (p0.toInt8.toInt32)), .unset, .unset, .unset, .unset] [(.int (j0_7_S0 p0))]) := by
    refine Go.st (mkF m 16 #[.val (.int p0), .val (.int (p0.toInt8.toInt32)), .val (.int (j0_7_S0 p0)), .unset, .unset, .unset] []) (fun _ k => XS.istoreN X0.here hx rfl (hb hby at_15) rfl (l' := #[.val (.int p0), .val (.int (p0.toInt8.toInt32)), .val (.int (j0_7_S0 p0)), .unset, .unset, .unset]) rfl k) ?_
    refine Go.st (mkF m 17 #[.val (.int p0), .val (.int (p0.toInt8.toInt32)), .val (.int (j0_7_S0 p0)), .unset, .unset, .unset] [(.int p0)]) (fun _ k => XS.iloadN X0.here hx rfl (hb hby at_16) rfl k) ?_
    refine Go.st (mkF m 18 #[.val (.int p0), .val (.int (p0.toInt8.toInt32)), .val (.int (j0_7_S0 p0)), .unset, .unset, .unset] [(.int (1 : Int32)), (.int p0)]) (fun _ k => XS.iconst X0.here hx rfl (hb hby at_17) k) ?_
    refine Go.st (mkF m 19 #[.val (.int p0), .val (.int (p0.toInt8.toInt32)), .val (.int (j0_7_S0 p0)), .unset, .unset, .unset] [(.int (p0 &&& (1 : Int32)))]) (fun _ k => XS.iand X0.here hx rfl (hb hby at_18) rfl k) ?_
    have J19 : Go p e below s (Q_0 p0 h0 n0) 0 0 s₁ (mkF m 27 #[.val (.int p0), .val (.int (p0.toInt8.toInt32)), .val (.int (j0_7_S0 p0)), .unset, .unset, .unset] [(.int (j0_19_S0 p0))]) := by
      refine Go.st (mkF m 28 #[.val (.int p0), .val (.int (p0.toInt8.toInt32)), .val (.int (j0_7_S0 p0)), .val (.int (j0_19_S0 p0)), .unset, .unset] []) (fun _ k => XS.istoreN X0.here hx rfl (hb hby at_27) rfl (l' := #[.val (.int p0), .val (.int (p0.toInt8.toInt32)), .val (.int (j0_7_S0 p0)), .val (.int (j0_19_S0 p0)), .unset, .unset]) rfl k) ?_
      refine Go.st (mkF m 29 #[.val (.int p0), .val (.int (p0.toInt8.toInt32)), .val (.int (j0_7_S0 p0)), .val (.int (j0_19_S0 p0)), .unset, .unset] [(.int (j0_7_S0 p0))]) (fun _ k => XS.iloadN X0.here hx rfl (hb hby at_28) rfl k) ?_
      have J29 : Go p e below s (Q_0 p0 h0 n0) 0 0 s₁ (mkF m 64 #[.val (.int p0), .val (.int (p0.toInt8.toInt32)), .val (.int (j0_7_S0 p0)), .val (.int (j0_19_S0 p0)), .val (.int (j0_29_L4 p0)), .unset] []) := by
        refine Go.st (mkF m 65 #[.val (.int p0), .val (.int (p0.toInt8.toInt32)), .val (.int (j0_7_S0 p0)), .val (.int (j0_19_S0 p0)), .val (.int (j0_29_L4 p0)), .unset] [(.int (p0.toInt8.toInt32))]) (fun _ k => XS.iloadN X0.here hx rfl (hb hby at_64) rfl k) ?_
        obtain ⟨_, _, ⟨T4, L4, k4, n4⟩, -, X4, ⟨Lc4, hQ4, l4, y4, z4⟩, st4⟩ := Jvm.LawKit.callS X0 hx (y := (⟨"com/example/nimblepack/nimblepack/Lz4FrameOptions", "descriptorLength", "(B)I"⟩ : MethodName)) hown (mvT hZ (hw _ (List.mem_of_getElem? (i := 0) rfl))) (mvT hZ (hw _ (List.mem_of_getElem? (i := 1) rfl))) (mvT hZ (hw _ (List.mem_of_getElem? (i := 2) rfl))) (mvT hZ (hw _ (List.mem_of_getElem? (i := 3) rfl))) (by decide) (backOf (W := 0) (rm_1 l Z a0 hw [] (p0.toInt8.toInt32) h0 n0 Z0) hZ (hw _ (List.mem_of_getElem? (i := 3) rfl)) (hw _ (List.mem_of_getElem? (i := 2) rfl)) (by decide) (by decide)) (g := (mkF m 65 #[.val (.int p0), .val (.int (p0.toInt8.toInt32)), .val (.int (j0_7_S0 p0)), .val (.int (j0_19_S0 p0)), .val (.int (j0_29_L4 p0)), .unset] [(.int (p0.toInt8.toInt32))])) rfl (by rw [hml]; rfl) (argsL := [(.int (p0.toInt8.toInt32))]) (rest := []) (lenOf pd_0 rfl) rfl (by show 2 * 0 + _ ≤ _; exact Nat.le_of_eq rfl) (hb hby at_65) (fun _ _ => ⟨rfl, e0, (by decide : 0 + 0 ≤ _), (by decide : 0 + 0 ≤ _)⟩)
        dsimp only [Pt.U, Pt.locs, Pt.cells, Pt.slots] at X4 l4 y4 z4 st4 hQ4
        subst l4 y4 z4
        obtain ⟨rfl, N4q, e4⟩ := hQ4
        have N4 := Fr.app N0 N4q
        refine Go.st (mkF m 68 #[.val (.int p0), .val (.int (p0.toInt8.toInt32)), .val (.int (j0_7_S0 p0)), .val (.int (j0_19_S0 p0)), .val (.int (j0_29_L4 p0)), .unset] [(.int (f_1 (p0.toInt8.toInt32)))]) (fun _ k => st4 _ k) ?_
        refine Go.st (mkF m 70 #[.val (.int p0), .val (.int (p0.toInt8.toInt32)), .val (.int (j0_7_S0 p0)), .val (.int (j0_19_S0 p0)), .val (.int (j0_29_L4 p0)), .val (.int (f_1 (p0.toInt8.toInt32)))] []) (fun _ k => XS.istore X4.here hx rfl (hb hby at_68) rfl (l' := #[.val (.int p0), .val (.int (p0.toInt8.toInt32)), .val (.int (j0_7_S0 p0)), .val (.int (j0_19_S0 p0)), .val (.int (j0_29_L4 p0)), .val (.int (f_1 (p0.toInt8.toInt32)))]) rfl k) ?_
        refine Go.st (mkF m 72 #[.val (.int p0), .val (.int (p0.toInt8.toInt32)), .val (.int (j0_7_S0 p0)), .val (.int (j0_19_S0 p0)), .val (.int (j0_29_L4 p0)), .val (.int (f_1 (p0.toInt8.toInt32)))] [(.int (f_1 (p0.toInt8.toInt32)))]) (fun _ k => XS.iload X4.here hx rfl (hb hby at_70) rfl k) ?_
        refine Go.st (mkF m 74 #[.val (.int p0), .val (.int (p0.toInt8.toInt32)), .val (.int (j0_7_S0 p0)), .val (.int (j0_19_S0 p0)), .val (.int (j0_29_L4 p0)), .val (.int (f_1 (p0.toInt8.toInt32)))] [(.int (j0_29_L4 p0)), (.int (f_1 (p0.toInt8.toInt32)))]) (fun _ k => XS.iload X4.here hx rfl (hb hby at_72) rfl k) ?_
        by_cases hc74_5 : (f_1 (p0.toInt8.toInt32)) = (j0_29_L4 p0)
        ·
          refine Go.st (mkF m 77 #[.val (.int p0), .val (.int (p0.toInt8.toInt32)), .val (.int (j0_7_S0 p0)), .val (.int (j0_19_S0 p0)), .val (.int (j0_29_L4 p0)), .val (.int (f_1 (p0.toInt8.toInt32)))] []) (fun _ k => XS.icmpNo X4.here hx rfl (hb hby at_74) rfl (teq hc74_5).2 k) ?_
          refine Go.st (mkF m 79 #[.val (.int p0), .val (.int (p0.toInt8.toInt32)), .val (.int (j0_7_S0 p0)), .val (.int (j0_19_S0 p0)), .val (.int (j0_29_L4 p0)), .val (.int (f_1 (p0.toInt8.toInt32)))] [(.int (f_1 (p0.toInt8.toInt32)))]) (fun _ k => XS.iload X4.here hx rfl (hb hby at_77) rfl k) ?_
          refine Go.st (mkF m 81 #[.val (.int p0), .val (.int (p0.toInt8.toInt32)), .val (.int (j0_7_S0 p0)), .val (.int (j0_19_S0 p0)), .val (.int (j0_29_L4 p0)), .val (.int (f_1 (p0.toInt8.toInt32)))] [(.int (15 : Int32)), (.int (f_1 (p0.toInt8.toInt32)))]) (fun _ k => XS.bipush X4.here hx rfl (hb hby at_79) k) ?_
          by_cases hc81_6 : (15 : Int32) < (f_1 (p0.toInt8.toInt32))
          ·
            refine Go.st (mkF m 88 #[.val (.int p0), .val (.int (p0.toInt8.toInt32)), .val (.int (j0_7_S0 p0)), .val (.int (j0_19_S0 p0)), .val (.int (j0_29_L4 p0)), .val (.int (f_1 (p0.toInt8.toInt32)))] []) (fun _ k => XS.icmpYes X4.here hx rfl (pc0 := 81) (pc' := 88) rfl (hb hby at_81) rfl (tlt hc81_6).2.2.1 (by decide) (by decide) k) ?_
            refine Go.st (mkF m 89 #[.val (.int p0), .val (.int (p0.toInt8.toInt32)), .val (.int (j0_7_S0 p0)), .val (.int (j0_19_S0 p0)), .val (.int (j0_29_L4 p0)), .val (.int (f_1 (p0.toInt8.toInt32)))] [(.int (0 : Int32))]) (fun _ k => XS.iconst X4.here hx rfl (hb hby at_88) k) ?_
            exact Go.retZ X4 hx Bd.notSynchronized (t := .boolean) (by simp) Bd.returns (hb hby at_89) ⟨congrArg (fun z => some (Value.int z)) (show nar .boolean (0 : Int32) = f_0 p0 from by unfold f_0; rw [if_pos hc74_5, if_pos hc81_6]; first | done | rfl), N4, e4⟩ (by decide) (by decide)
          ·
            refine Go.st (mkF m 84 #[.val (.int p0), .val (.int (p0.toInt8.toInt32)), .val (.int (j0_7_S0 p0)), .val (.int (j0_19_S0 p0)), .val (.int (j0_29_L4 p0)), .val (.int (f_1 (p0.toInt8.toInt32)))] []) (fun _ k => XS.icmpNo X4.here hx rfl (hb hby at_81) rfl (flt hc81_6).2.2.1 k) ?_
            refine Go.st (mkF m 85 #[.val (.int p0), .val (.int (p0.toInt8.toInt32)), .val (.int (j0_7_S0 p0)), .val (.int (j0_19_S0 p0)), .val (.int (j0_29_L4 p0)), .val (.int (f_1 (p0.toInt8.toInt32)))] [(.int (1 : Int32))]) (fun _ k => XS.iconst X4.here hx rfl (hb hby at_84) k) ?_
            refine Go.st (mkF m 89 #[.val (.int p0), .val (.int (p0.toInt8.toInt32)), .val (.int (j0_7_S0 p0)), .val (.int (j0_19_S0 p0)), .val (.int (j0_29_L4 p0)), .val (.int (f_1 (p0.toInt8.toInt32)))] [(.int (1 : Int32))]) (fun _ k => XS.goto X4.here hx rfl (pc0 := 85) (pc' := 89) rfl (hb hby at_85) (by decide) (by decide) k) ?_
            exact Go.retZ X4 hx Bd.notSynchronized (t := .boolean) (by simp) Bd.returns (hb hby at_89) ⟨congrArg (fun z => some (Value.int z)) (show nar .boolean (1 : Int32) = f_0 p0 from by unfold f_0; rw [if_pos hc74_5, if_neg hc81_6]; first | done | rfl), N4, e4⟩ (by decide) (by decide)
        ·
          refine Go.st (mkF m 88 #[.val (.int p0), .val (.int (p0.toInt8.toInt32)), .val (.int (j0_7_S0 p0)), .val (.int (j0_19_S0 p0)), .val (.int (j0_29_L4 p0)), .val (.int (f_1 (p0.toInt8.toInt32)))] []) (fun _ k => XS.icmpYes X4.here hx rfl (pc0 := 74) (pc' := 88) rfl (hb hby at_74) rfl (feq hc74_5).2 (by decide) (by decide) k) ?_
          refine Go.st (mkF m 89 #[.val (.int p0), .val (.int (p0.toInt8.toInt32)), .val (.int (j0_7_S0 p0)), .val (.int (j0_19_S0 p0)), .val (.int (j0_29_L4 p0)), .val (.int (f_1 (p0.toInt8.toInt32)))] [(.int (0 : Int32))]) (fun _ k => XS.iconst X4.here hx rfl (hb hby at_88) k) ?_
          exact Go.retZ X4 hx Bd.notSynchronized (t := .boolean) (by simp) Bd.returns (hb hby at_89) ⟨congrArg (fun z => some (Value.int z)) (show nar .boolean (0 : Int32) = f_0 p0 from by unfold f_0; rw [if_neg hc74_5]; first | done | rfl), N4, e4⟩ (by decide) (by decide)
      by_cases hc29_3 : (j0_7_S0 p0) = (0 : Int32)
      ·
        refine Go.st (mkF m 50 #[.val (.int p0), .val (.int (p0.toInt8.toInt32)), .val (.int (j0_7_S0 p0)), .val (.int (j0_19_S0 p0)), .unset, .unset] []) (fun _ k => XS.ifYes X0.here hx rfl (pc0 := 29) (pc' := 50) rfl (hb hby at_29) rfl ((if0 _ _).trans (teq hc29_3).1) (by decide) (by decide) k) ?_
        refine Go.st (mkF m 51 #[.val (.int p0), .val (.int (p0.toInt8.toInt32)), .val (.int (j0_7_S0 p0)), .val (.int (j0_19_S0 p0)), .unset, .unset] [(.int (j0_19_S0 p0))]) (fun _ k => XS.iloadN X0.here hx rfl (hb hby at_50) rfl k) ?_
        by_cases hc51_7 : (j0_19_S0 p0) = (0 : Int32)
        ·
          refine Go.st (mkF m 61 #[.val (.int p0), .val (.int (p0.toInt8.toInt32)), .val (.int (j0_7_S0 p0)), .val (.int (j0_19_S0 p0)), .unset, .unset] []) (fun _ k => XS.ifYes X0.here hx rfl (pc0 := 51) (pc' := 61) rfl (hb hby at_51) rfl ((if0 _ _).trans (teq hc51_7).1) (by decide) (by decide) k) ?_
          refine Go.st (mkF m 62 #[.val (.int p0), .val (.int (p0.toInt8.toInt32)), .val (.int (j0_7_S0 p0)), .val (.int (j0_19_S0 p0)), .unset, .unset] [(.int (3 : Int32))]) (fun _ k => XS.iconst X0.here hx rfl (hb hby at_61) k) ?_
          refine Go.st (mkF m 64 #[.val (.int p0), .val (.int (p0.toInt8.toInt32)), .val (.int (j0_7_S0 p0)), .val (.int (j0_19_S0 p0)), .val (.int (3 : Int32)), .unset] []) (fun _ k => XS.istore X0.here hx rfl (hb hby at_62) rfl (l' := #[.val (.int p0), .val (.int (p0.toInt8.toInt32)), .val (.int (j0_7_S0 p0)), .val (.int (j0_19_S0 p0)), .val (.int (3 : Int32)), .unset]) rfl k) ?_
          rw [show (j0_29_L4 p0) = (3 : Int32) from by unfold j0_29_L4; rw [if_pos hc29_3, if_pos hc51_7]] at J29
          exact J29
        ·
          refine Go.st (mkF m 54 #[.val (.int p0), .val (.int (p0.toInt8.toInt32)), .val (.int (j0_7_S0 p0)), .val (.int (j0_19_S0 p0)), .unset, .unset] []) (fun _ k => XS.ifNo X0.here hx rfl (hb hby at_51) rfl ((if0 _ _).trans (feq hc51_7).1) k) ?_
          refine Go.st (mkF m 56 #[.val (.int p0), .val (.int (p0.toInt8.toInt32)), .val (.int (j0_7_S0 p0)), .val (.int (j0_19_S0 p0)), .unset, .unset] [(.int (7 : Int32))]) (fun _ k => XS.bipush X0.here hx rfl (hb hby at_54) k) ?_
          refine Go.st (mkF m 58 #[.val (.int p0), .val (.int (p0.toInt8.toInt32)), .val (.int (j0_7_S0 p0)), .val (.int (j0_19_S0 p0)), .val (.int (7 : Int32)), .unset] []) (fun _ k => XS.istore X0.here hx rfl (hb hby at_56) rfl (l' := #[.val (.int p0), .val (.int (p0.toInt8.toInt32)), .val (.int (j0_7_S0 p0)), .val (.int (j0_19_S0 p0)), .val (.int (7 : Int32)), .unset]) rfl k) ?_
          refine Go.st (mkF m 64 #[.val (.int p0), .val (.int (p0.toInt8.toInt32)), .val (.int (j0_7_S0 p0)), .val (.int (j0_19_S0 p0)), .val (.int (7 : Int32)), .unset] []) (fun _ k => XS.goto X0.here hx rfl (pc0 := 58) (pc' := 64) rfl (hb hby at_58) (by decide) (by decide) k) ?_
          rw [show (j0_29_L4 p0) = (7 : Int32) from by unfold j0_29_L4; rw [if_pos hc29_3, if_neg hc51_7]] at J29
          exact J29
      ·
        refine Go.st (mkF m 32 #[.val (.int p0), .val (.int (p0.toInt8.toInt32)), .val (.int (j0_7_S0 p0)), .val (.int (j0_19_S0 p0)), .unset, .unset] []) (fun _ k => XS.ifNo X0.here hx rfl (hb hby at_29) rfl ((if0 _ _).trans (feq hc29_3).1) k) ?_
        refine Go.st (mkF m 33 #[.val (.int p0), .val (.int (p0.toInt8.toInt32)), .val (.int (j0_7_S0 p0)), .val (.int (j0_19_S0 p0)), .unset, .unset] [(.int (j0_19_S0 p0))]) (fun _ k => XS.iloadN X0.here hx rfl (hb hby at_32) rfl k) ?_
        by_cases hc33_8 : (j0_19_S0 p0) = (0 : Int32)
        ·
          refine Go.st (mkF m 43 #[.val (.int p0), .val (.int (p0.toInt8.toInt32)), .val (.int (j0_7_S0 p0)), .val (.int (j0_19_S0 p0)), .unset, .unset] []) (fun _ k => XS.ifYes X0.here hx rfl (pc0 := 33) (pc' := 43) rfl (hb hby at_33) rfl ((if0 _ _).trans (teq hc33_8).1) (by decide) (by decide) k) ?_
          refine Go.st (mkF m 45 #[.val (.int p0), .val (.int (p0.toInt8.toInt32)), .val (.int (j0_7_S0 p0)), .val (.int (j0_19_S0 p0)), .unset, .unset] [(.int (11 : Int32))]) (fun _ k => XS.bipush X0.here hx rfl (hb hby at_43) k) ?_
          refine Go.st (mkF m 47 #[.val (.int p0), .val (.int (p0.toInt8.toInt32)), .val (.int (j0_7_S0 p0)), .val (.int (j0_19_S0 p0)), .val (.int (11 : Int32)), .unset] []) (fun _ k => XS.istore X0.here hx rfl (hb hby at_45) rfl (l' := #[.val (.int p0), .val (.int (p0.toInt8.toInt32)), .val (.int (j0_7_S0 p0)), .val (.int (j0_19_S0 p0)), .val (.int (11 : Int32)), .unset]) rfl k) ?_
          refine Go.st (mkF m 64 #[.val (.int p0), .val (.int (p0.toInt8.toInt32)), .val (.int (j0_7_S0 p0)), .val (.int (j0_19_S0 p0)), .val (.int (11 : Int32)), .unset] []) (fun _ k => XS.goto X0.here hx rfl (pc0 := 47) (pc' := 64) rfl (hb hby at_47) (by decide) (by decide) k) ?_
          rw [show (j0_29_L4 p0) = (11 : Int32) from by unfold j0_29_L4; rw [if_neg hc29_3, if_pos hc33_8]] at J29
          exact J29
        ·
          refine Go.st (mkF m 36 #[.val (.int p0), .val (.int (p0.toInt8.toInt32)), .val (.int (j0_7_S0 p0)), .val (.int (j0_19_S0 p0)), .unset, .unset] []) (fun _ k => XS.ifNo X0.here hx rfl (hb hby at_33) rfl ((if0 _ _).trans (feq hc33_8).1) k) ?_
          refine Go.st (mkF m 38 #[.val (.int p0), .val (.int (p0.toInt8.toInt32)), .val (.int (j0_7_S0 p0)), .val (.int (j0_19_S0 p0)), .unset, .unset] [(.int (15 : Int32))]) (fun _ k => XS.bipush X0.here hx rfl (hb hby at_36) k) ?_
          refine Go.st (mkF m 40 #[.val (.int p0), .val (.int (p0.toInt8.toInt32)), .val (.int (j0_7_S0 p0)), .val (.int (j0_19_S0 p0)), .val (.int (15 : Int32)), .unset] []) (fun _ k => XS.istore X0.here hx rfl (hb hby at_38) rfl (l' := #[.val (.int p0), .val (.int (p0.toInt8.toInt32)), .val (.int (j0_7_S0 p0)), .val (.int (j0_19_S0 p0)), .val (.int (15 : Int32)), .unset]) rfl k) ?_
          refine Go.st (mkF m 64 #[.val (.int p0), .val (.int (p0.toInt8.toInt32)), .val (.int (j0_7_S0 p0)), .val (.int (j0_19_S0 p0)), .val (.int (15 : Int32)), .unset] []) (fun _ k => XS.goto X0.here hx rfl (pc0 := 40) (pc' := 64) rfl (hb hby at_40) (by decide) (by decide) k) ?_
          rw [show (j0_29_L4 p0) = (15 : Int32) from by unfold j0_29_L4; rw [if_neg hc29_3, if_neg hc33_8]] at J29
          exact J29
    by_cases hc19_2 : (p0 &&& (1 : Int32)) = (0 : Int32)
    ·
      refine Go.st (mkF m 26 #[.val (.int p0), .val (.int (p0.toInt8.toInt32)), .val (.int (j0_7_S0 p0)), .unset, .unset, .unset] []) (fun _ k => XS.ifYes X0.here hx rfl (pc0 := 19) (pc' := 26) rfl (hb hby at_19) rfl ((if0 _ _).trans (teq hc19_2).1) (by decide) (by decide) k) ?_
      refine Go.st (mkF m 27 #[.val (.int p0), .val (.int (p0.toInt8.toInt32)), .val (.int (j0_7_S0 p0)), .unset, .unset, .unset] [(.int (0 : Int32))]) (fun _ k => XS.iconst X0.here hx rfl (hb hby at_26) k) ?_
      rw [show (j0_19_S0 p0) = (0 : Int32) from by unfold j0_19_S0; rw [if_pos hc19_2]] at J19
      exact J19
    ·
      refine Go.st (mkF m 22 #[.val (.int p0), .val (.int (p0.toInt8.toInt32)), .val (.int (j0_7_S0 p0)), .unset, .unset, .unset] []) (fun _ k => XS.ifNo X0.here hx rfl (hb hby at_19) rfl ((if0 _ _).trans (feq hc19_2).1) k) ?_
      refine Go.st (mkF m 23 #[.val (.int p0), .val (.int (p0.toInt8.toInt32)), .val (.int (j0_7_S0 p0)), .unset, .unset, .unset] [(.int (1 : Int32))]) (fun _ k => XS.iconst X0.here hx rfl (hb hby at_22) k) ?_
      refine Go.st (mkF m 27 #[.val (.int p0), .val (.int (p0.toInt8.toInt32)), .val (.int (j0_7_S0 p0)), .unset, .unset, .unset] [(.int (1 : Int32))]) (fun _ k => XS.goto X0.here hx rfl (pc0 := 23) (pc' := 27) rfl (hb hby at_23) (by decide) (by decide) k) ?_
      rw [show (j0_19_S0 p0) = (1 : Int32) from by unfold j0_19_S0; rw [if_neg hc19_2]] at J19
      exact J19
  by_cases hc7_1 : (p0 &&& (8 : Int32)) = (0 : Int32)
  ·
    refine Go.st (mkF m 14 #[.val (.int p0), .val (.int (p0.toInt8.toInt32)), .unset, .unset, .unset, .unset] []) (fun _ k => XS.ifYes X0.here hx rfl (pc0 := 7) (pc' := 14) rfl (hb hby at_7) rfl ((if0 _ _).trans (teq hc7_1).1) (by decide) (by decide) k) ?_
    refine Go.st (mkF m 15 #[.val (.int p0), .val (.int (p0.toInt8.toInt32)), .unset, .unset, .unset, .unset] [(.int (0 : Int32))]) (fun _ k => XS.iconst X0.here hx rfl (hb hby at_14) k) ?_
    rw [show (j0_7_S0 p0) = (0 : Int32) from by unfold j0_7_S0; rw [if_pos hc7_1]] at J7
    exact J7
  ·
    refine Go.st (mkF m 10 #[.val (.int p0), .val (.int (p0.toInt8.toInt32)), .unset, .unset, .unset, .unset] []) (fun _ k => XS.ifNo X0.here hx rfl (hb hby at_7) rfl ((if0 _ _).trans (feq hc7_1).1) k) ?_
    refine Go.st (mkF m 11 #[.val (.int p0), .val (.int (p0.toInt8.toInt32)), .unset, .unset, .unset, .unset] [(.int (1 : Int32))]) (fun _ k => XS.iconst X0.here hx rfl (hb hby at_10) k) ?_
    refine Go.st (mkF m 15 #[.val (.int p0), .val (.int (p0.toInt8.toInt32)), .unset, .unset, .unset, .unset] [(.int (1 : Int32))]) (fun _ k => XS.goto X0.here hx rfl (pc0 := 11) (pc' := 15) rfl (hb hby at_11) (by decide) (by decide) k) ?_
    rw [show (j0_7_S0 p0) = (1 : Int32) from by unfold j0_7_S0; rw [if_neg hc7_1]] at J7
    exact J7
theorem own_low8 (p : Int32) : p.toInt8.toInt32 &&& 255 = p &&& 255 := by
  apply Int32.toInt_inj.mp
  rw [Jvm.Kit.i32_mask _ 255 (k := 8) (by decide) (by decide), Jvm.Kit.i32_mask _ 255 (k := 8) (by decide) (by decide), Int8.toInt_toInt32, Int32.toInt_toInt8]
  exact Int.bmod_emod
theorem own_and (p m : Int32) (h : (255 : Int32) &&& m = m) : p.toInt8.toInt32 &&& m = p &&& m := by
  rw [← h, ← Int32.and_assoc, ← Int32.and_assoc, own_low8]
theorem own_law (p : Int32) : f_0 p = 1 := by
  have e8 := own_and p 8 (by decide)
  have e1 := own_and p 1 (by decide)
  unfold f_0 f_1 j1_5_S0 j1_18_S0 j0_29_L4 j0_7_S0 j0_19_S0
  rw [e8, e1]
  by_cases a : p &&& 8 = 0 <;> by_cases b : p &&& 1 = 0
  · simp only [if_pos a, if_pos b]; decide
  · simp only [if_pos a, if_neg b]; decide
  · simp only [if_neg a, if_pos b]; decide
  · simp only [if_neg a, if_neg b]; decide
set_option maxRecDepth 65536 in
set_option maxHeartbeats 40000000 in
theorem comes_1 {Post : Tables → Env → Array Value → State → Outcome → State → Prop} (hpost : ∀ tb e args s v u, (limb_1_1.after args s (.returned v) u = true ∧ limb_1_2.after args s (.returned v) u = true ∧ True) → FrameEnd s (.returned v) u (Jvm.fieldLocs frame_1_writes args s ++ Jvm.arrayLocs frame_1_arrays args s ++ Jvm.staticLocs frame_1_statics s) 0 0 → Post tb e args s (.returned v) u) :
    ArmFor flags0 classFile x code maxLocals ret World_1 tables_1 room_1 Calls_1 rest_1 Pre_1 Post := by
  intro l hfl _ _ p e ha hc hk s m args below hf hA hF happ hP
  obtain ⟨hcalls, hrest, hpre⟩ := hP
  obtain ⟨-, -, -, hnamed, -, -, -, hat⟩ := (Spec.applies_iff hf).mp happ
  obtain ⟨hg, hn⟩ := and_e (Cond.before_iff.mp (show (Jvm.Cond.and given_1 narrow_1).before args s = true from hpre))
  obtain ⟨h1, g0⟩ := and_e hg
  obtain ⟨w0, rfl⟩ : ∃ w0 : Value, args = #[w0] := by
    have hs : args.size = 1 := by simpa [Cond.value, given_1] using h1
    obtain ⟨L⟩ := args
    match L, hs with
    | [w0], _ => exact ⟨w0, rfl⟩
  have hw := fun d (hd : d ∈ tables_1) => atoms_spec (ws := Jvm.Cond.code x code maxLocals ret :: tables_1) hat d (List.mem_cons_of_mem _ hd)
  obtain ⟨i0, e0⟩ := is_v g0
  obtain rfl : w0 = (.int i0) := Option.some.inj e0
  obtain ⟨n, o, h1, h2, h3, _, L, rfl, ⟨rfl, N, _⟩, hq⟩ := rm_0 l s _ hw tables_1 i0 s.heap s.heap.size (Nat.le_refl _) p e ha hc hk s m _ below hf ((Spec.applies_iff_loose hf).mp happ).1 ⟨rfl, State.Warmed39.refl s, rfl⟩ trivial
  have ht : f_0 i0 = 1 := own_law i0
  rw [ht] at h3 hq
  refine ⟨n, _, h1, h2, h3, hpost _ _ _ _ _ _ ⟨Cond.after_iff.mpr rfl, Cond.after_iff.mpr (eq_i res_at (Term.int_eval (1)) rfl), trivial⟩ ⟨hq.1, hq.2.1, (hq.2.2.sift fun y hy => Or.inr (N y hy)).mono (by decide) (by decide)⟩⟩
theorem main_1_1 : Claimed_1_1 := comes_1 fun _ _ _ _ _ _ h hF => ⟨h.1, hF⟩
theorem main_1_2 : Claimed_1_2 := comes_1 fun _ _ _ _ _ _ h hF => ⟨h.2.1, hF⟩
end Jvm.Pilot.@@N@@
namespace Jvm.Pilot.@@N@@
open Jvm Jvm.ClassFile Sem Op Lib Jvm.Free Jvm.Stand Jvm.Pilot.@@N@@.Jvm.D
/-! MADE BY PROGRAM (witnessworld.py) out of the Statement's table words and the real class files: 9 classes; the members and pool entries that the words name. The judged class is class 1, her method 1. -/
namespace start1
open Jvm.ClassFile
def u (s : String) : CpInfo := .utf8 (stringToUtf16 s)
/-- a pool by its gaps: so many unusable entries, then the entry; so many at the end -/
def gap : Nat → List CpInfo → List CpInfo
  | 0, r => r
  | n + 1, r => .unusable :: gap n r
def poolList (es : List (Nat × CpInfo)) (last : Nat) : List CpInfo := es.foldr (fun e r => gap e.1 (e.2 :: r)) (gap last [])
def pool (es : List (Nat × CpInfo)) (last : Nat) : Array CpInfo := ⟨poolList es last⟩
def fileOf (pool : Array CpInfo) (this : Nat) (attrs : Array Attribute := #[]) (ms : Array MethodInfo := #[]) (fl : Nat := 33) (sup : Nat := 0) (ifs : Array Nat := #[]) (fds : Array FieldInfo := #[]) : ClassFile where
  minorVersion := 0
  majorVersion := 65
  constantPool := pool
  accessFlags := fl
  thisClass := this
  superClass := sup
  interfaces := ifs
  fields := fds
  methods := ms
  attributes := attrs
def plain (name : String) (sup : Option ClassId) : Class where
  name := name
  kind := .ordinary
  loader := none
  accessFlags := 33
  super := sup
  interfaces := #[]
  cf := none
  fields := #[]
  methods := #[]
  instanceTypes := #[]
  staticTypes := #[]
  resolved := #[]
  callSites := []
  init := .initialized
  statics := none
  mirror := none

def pool0 : Array CpInfo := pool [(5, u "<init>"), (0, u "()V"), (1, .class_ 10), (1, u "java/lang/Object")] 113

def k0m0 : Method := { name := "<init>", desc := "()V", sig := { parameters := [], returnType := none }, accessFlags := 1, code := none }
/-- java/lang/Object -/
def k0 : Class := { plain "java/lang/Object" none with
  accessFlags := 33
  interfaces := #[]
  cf := some (fileOf pool0 8 #[] #[{ accessFlags := 1, nameIndex := 5, descriptorIndex := 6, attributes := #[] }] 33 0 #[] #[])
  fields := #[]
  methods := #[k0m0]
  instanceTypes := #[]
  staticTypes := #[]
  resolved := Array.replicate 124 none
  statics := none }

def pool1 : Array CpInfo := pool [(2, .class_ 4), (1, u "java/lang/Object"), (0, u "<init>"), (0, u "()V"), (0, .methodref 8 9), (0, .class_ 10), (0, .nameAndType 11 12), (0, u "com/example/nimblepack/nimblepack/Lz4FrameOptions"), (0, u "descriptorLength"), (0, u "(B)I"), (0, .class_ 14), (0, u "com/example/nimblepack/nimblepack/Lz4FrameOptionsDescriptorLengthPinLaw"), (2, u "law"), (0, u "(I)Z")] 3

def k1m0 : Method := { name := "<init>", desc := "()V", sig := { parameters := [], returnType := none }, accessFlags := 2, code := none }
def k1c1 : Code := { maxStack := 2, maxLocals := 6, code := code, exceptionTable := #[], attributes := #[] }
def k1m1 : Method := { name := "law", desc := "(I)Z", sig := { parameters := [.int], returnType := some .boolean }, accessFlags := 9, code := some k1c1 }
/-- com/example/nimblepack/nimblepack/Lz4FrameOptionsDescriptorLengthPinLaw -/
def k1 : Class := { plain "com/example/nimblepack/nimblepack/Lz4FrameOptionsDescriptorLengthPinLaw" (some 0) with
  accessFlags := 49
  interfaces := #[]
  cf := some (fileOf pool1 13 #[] #[{ accessFlags := 2, nameIndex := 5, descriptorIndex := 6, attributes := #[] }, { accessFlags := 9, nameIndex := 17, descriptorIndex := 18, attributes := #[] }] 49 2 #[] #[])
  fields := #[]
  methods := #[k1m0, k1m1]
  instanceTypes := #[]
  staticTypes := #[]
  resolved := Array.replicate 22 none
  statics := none }

def pool2 : Array CpInfo := pool [(2, .class_ 4), (1, u "java/lang/Object"), (3, .class_ 10), (1, u "com/example/nimblepack/nimblepack/Lz4FrameOptions"), (0, u "blockSize"), (0, u "Lcom/example/nimblepack/nimblepack/Lz4FrameOptions$BlockSize;"), (2, u "blockChecksums"), (0, u "Z"), (2, u "contentChecksum"), (2, u "contentSize"), (0, u "J"), (2, u "linkedBlocks"), (31, .class_ 60), (1, u "com/example/nimblepack/nimblepack/Lz4FrameOptions$BlockSize"), (1, u "I"), (74, u "DEFAULT"), (0, u "Lcom/example/nimblepack/nimblepack/Lz4FrameOptions;"), (0, u "VERSION_MASK"), (2, u "VERSION"), (1, u "INDEPENDENT_BLOCKS"), (1, u "BLOCK_CHECKSUMS"), (1, u "CONTENT_SIZE"), (1, u "CONTENT_CHECKSUM"), (1, u "RESERVED_FLAG"), (1, u "DICTIONARY_ID"), (1, u "RESERVED_BD_BITS"), (1, u "MAX_DESCRIPTOR_LENGTH"), (17, u "descriptorLength"), (0, u "(B)I")] 31

def k2c0 : Code := { maxStack := 3, maxLocals := 1, code := prog_14_method_12_code, exceptionTable := #[], attributes := #[] }
def k2m0 : Method := { name := "descriptorLength", desc := "(B)I", sig := { parameters := [.byte], returnType := some .int }, accessFlags := 8, code := some k2c0 }
/-- com/example/nimblepack/nimblepack/Lz4FrameOptions -/
def k2 : Class := { plain "com/example/nimblepack/nimblepack/Lz4FrameOptions" (some 0) with
  accessFlags := 49
  interfaces := #[]
  cf := some (fileOf pool2 8 #[.nestMembers #[58]] #[{ accessFlags := 8, nameIndex := 176, descriptorIndex := 177, attributes := #[] }] 49 2 #[] #[{ accessFlags := 25, nameIndex := 137, descriptorIndex := 138, attributes := #[] }, { accessFlags := 26, nameIndex := 139, descriptorIndex := 62, attributes := #[] }, { accessFlags := 26, nameIndex := 142, descriptorIndex := 62, attributes := #[] }, { accessFlags := 26, nameIndex := 144, descriptorIndex := 62, attributes := #[] }, { accessFlags := 26, nameIndex := 146, descriptorIndex := 62, attributes := #[] }, { accessFlags := 26, nameIndex := 148, descriptorIndex := 62, attributes := #[] }, { accessFlags := 26, nameIndex := 150, descriptorIndex := 62, attributes := #[] }, { accessFlags := 26, nameIndex := 152, descriptorIndex := 62, attributes := #[] }, { accessFlags := 26, nameIndex := 154, descriptorIndex := 62, attributes := #[] }, { accessFlags := 26, nameIndex := 156, descriptorIndex := 62, attributes := #[] }, { accessFlags := 24, nameIndex := 158, descriptorIndex := 62, attributes := #[] }, { accessFlags := 18, nameIndex := 11, descriptorIndex := 12, attributes := #[] }, { accessFlags := 18, nameIndex := 15, descriptorIndex := 16, attributes := #[] }, { accessFlags := 18, nameIndex := 19, descriptorIndex := 16, attributes := #[] }, { accessFlags := 18, nameIndex := 22, descriptorIndex := 23, attributes := #[] }, { accessFlags := 18, nameIndex := 26, descriptorIndex := 16, attributes := #[] }])
  fields := #[{ name := "DEFAULT", type := (.object "com/example/nimblepack/nimblepack/Lz4FrameOptions"), accessFlags := 25, slot := 0, constantValue := 0 }, { name := "VERSION_MASK", type := .int, accessFlags := 26, slot := 1, constantValue := 0 }, { name := "VERSION", type := .int, accessFlags := 26, slot := 2, constantValue := 0 }, { name := "INDEPENDENT_BLOCKS", type := .int, accessFlags := 26, slot := 3, constantValue := 0 }, { name := "BLOCK_CHECKSUMS", type := .int, accessFlags := 26, slot := 4, constantValue := 0 }, { name := "CONTENT_SIZE", type := .int, accessFlags := 26, slot := 5, constantValue := 0 }, { name := "CONTENT_CHECKSUM", type := .int, accessFlags := 26, slot := 6, constantValue := 0 }, { name := "RESERVED_FLAG", type := .int, accessFlags := 26, slot := 7, constantValue := 0 }, { name := "DICTIONARY_ID", type := .int, accessFlags := 26, slot := 8, constantValue := 0 }, { name := "RESERVED_BD_BITS", type := .int, accessFlags := 26, slot := 9, constantValue := 0 }, { name := "MAX_DESCRIPTOR_LENGTH", type := .int, accessFlags := 24, slot := 10, constantValue := 0 }, { name := "blockSize", type := (.object "com/example/nimblepack/nimblepack/Lz4FrameOptions$BlockSize"), accessFlags := 18, slot := 0, constantValue := 0 }, { name := "blockChecksums", type := .boolean, accessFlags := 18, slot := 1, constantValue := 0 }, { name := "contentChecksum", type := .boolean, accessFlags := 18, slot := 2, constantValue := 0 }, { name := "contentSize", type := .long, accessFlags := 18, slot := 3, constantValue := 0 }, { name := "linkedBlocks", type := .boolean, accessFlags := 18, slot := 4, constantValue := 0 }]
  methods := #[k2m0]
  instanceTypes := #[(.object "com/example/nimblepack/nimblepack/Lz4FrameOptions$BlockSize"), .boolean, .boolean, .long, .boolean]
  staticTypes := #[(.object "com/example/nimblepack/nimblepack/Lz4FrameOptions"), .int, .int, .int, .int, .int, .int, .int, .int, .int, .int]
  resolved := Array.replicate 209 none
  statics := none }

def pool3 : Array CpInfo := pool [(1, u "java/lang/Cloneable"), (0, .class_ 1), (0, u "java/lang/Object"), (0, .class_ 3)] 3

/-- java/lang/Cloneable -/
def k3 : Class := { plain "java/lang/Cloneable" (some 0) with
  accessFlags := 1537
  interfaces := #[]
  cf := some (fileOf pool3 2 #[] #[] 1537 4 #[] #[])
  fields := #[]
  methods := #[]
  instanceTypes := #[]
  staticTypes := #[]
  resolved := Array.replicate 8 none
  statics := none }

def pool4 : Array CpInfo := pool [(1, u "java/io/Serializable"), (0, .class_ 1), (0, u "java/lang/Object"), (0, .class_ 3)] 3

/-- java/io/Serializable -/
def k4 : Class := { plain "java/io/Serializable" (some 0) with
  accessFlags := 1537
  interfaces := #[]
  cf := some (fileOf pool4 2 #[] #[] 1537 4 #[] #[])
  fields := #[]
  methods := #[]
  instanceTypes := #[]
  staticTypes := #[]
  resolved := Array.replicate 8 none
  statics := none }

/-- the primitive byte -/
def k5 : Class := { plain "byte" none with kind := .primitive 'B', accessFlags := 0x411 }
/-- [B -/
def k6 : Class := { plain "[B" (some 0) with kind := .array 5 .byte, interfaces := #[3, 4], accessFlags := 1041 }

/-- the primitive int -/
def k7 : Class := { plain "int" none with kind := .primitive 'I', accessFlags := 0x411 }
/-- [I -/
def k8 : Class := { plain "[I" (some 0) with kind := .array 7 .int, interfaces := #[3, 4], accessFlags := 1041 }

def heap : Heap := #[]
def classes : Array Class := #[k0, k1, k2, k3, k4, k5, k6, k7, k8]
def interned : List (Array UInt16 × Addr) := []
def slotsUsed : Nat := 0
def theMethod : MethodId := ⟨1, 1⟩
def args0 : Array Value := #[.int 5]
def aboutOver (below : List Frame) : State where
  vm := { classes := classes, interned := interned.toArray }
  heap := heap
  slotsUsed := slotsUsed
  threads := #[{ frames := .invoking theMethod args0 :: below }]
def below0 : List Frame := [.native { method := ⟨0, 0⟩, args := #[] }]
def about1 : State := aboutOver below0
def p0 : Program := .bare "" "" ""
def e0 : Env := launch0.env 0 0 0
theorem w_frames : about1.frames = Frame.invoking theMethod args0 :: below0 := rfl
set_option maxRecDepth 65536 in
theorem w_args : argsFit about1.vm theMethod args0 = true := by decide +kernel
set_option maxRecDepth 65536 in
theorem w_heap : heapFits about1 = true := by decide +kernel
set_option maxRecDepth 65536 in
theorem w_runnable : about1.curStatus? = some .runnable := by decide +kernel
set_option maxRecDepth 65536 in
theorem w_alone : about1.alone = true := by decide +kernel
set_option maxRecDepth 65536 in
theorem w_named : about1.methodNamed? x = some theMethod := by decide +kernel
set_option maxRecDepth 65536 in
theorem w_hears : about1.hears theMethod below0 = true := by decide +kernel
set_option maxRecDepth 65536 in
theorem w_ripe : about1.ripe theMethod args0 below0 = true := by decide +kernel
theorem w_running : about1.status = .running := rfl
set_option maxRecDepth 65536 in
theorem w_room : about1.hasRoom e0.platform room_1 = true :=
  launch0.hasRoom_least _ room_1 (by decide +kernel) (by decide +kernel) (by decide +kernel) (by decide +kernel) (by decide +kernel) (by decide +kernel)
theorem allAtoms_all (ts : List Jvm.Cond) (a : Array Jvm.Value) (st : Jvm.State) : (allAtoms ts).before a st = ts.all (fun c => c.before a st) := by
  induction ts with
  | nil => rfl
  | cons c t ih =>
    show (Jvm.Cond.and c (allAtoms t)).before a st = _
    rw [Jvm.Cond.before_and, ih, List.all_cons]
def words1 : List Jvm.Cond := Jvm.Cond.code x code maxLocals ret :: tables_1
/-- a 'code' word, met by the world's own term for the bytes: nothing is compared byte by byte -/
theorem code_word {y : MethodName} {bytes : ByteArray} {mx : Nat} {rt : Option FieldType} {a : Array Value} {s : State} {m : MethodId} {meth : Method} {c : Code} (h1 : s.methodNamed? y = some m) (h2 : s.vm.method? m = some meth) (h3 : meth.code = some c) (h4 : c.code = bytes)
    (h5 : (c.maxLocals == mx && c.exceptionTable.isEmpty && decide (c.maxStack ≤ mostOperands) && decide (meth.sig.returnType = rt) && !meth.locks && decide (parseMethodDescriptor y.desc = some meth.sig)) = true) : (Jvm.Cond.code y bytes mx rt).before a s = true := by
  simp only [Bool.and_eq_true, beq_iff_eq, Bool.not_eq_true', decide_eq_true_eq] at h5
  obtain ⟨⟨⟨⟨⟨g1, g2⟩, g3⟩, g4⟩, g5⟩, g6⟩ := h5
  simp [Cond.before, Cond.holds, Cond.value, h1, h2, h3, h4, g1, g2, g3, g4, g5, g6]
def isCode : Jvm.Cond → Bool
  | .code _ _ _ _ => true
  | _ => false
theorem all_split {L : List Jvm.Cond} {P : Jvm.Cond → Bool} (h1 : L.all (fun c => isCode c || P c) = true) (h2 : ∀ c ∈ L.filter isCode, P c = true) : L.all P = true := by
  refine List.all_eq_true.mpr fun c hc => ?_
  have h := List.all_eq_true.mp h1 c hc
  rcases Bool.eq_false_or_eq_true (isCode c) with hi | hi
  · exact h2 c (List.mem_filter.mpr ⟨hc, hi⟩)
  · simpa [hi] using h
set_option maxRecDepth 65536 in
theorem w_c0 : (Jvm.Cond.code x code maxLocals ret).before args0 about1 = true := code_word (m := ⟨1, 1⟩) (meth := k1m1) (c := k1c1) (by decide +kernel) rfl rfl rfl (by decide +kernel)
set_option maxRecDepth 65536 in
theorem w_c1 : (Jvm.Cond.code ({ cls := "com/example/nimblepack/nimblepack/Lz4FrameOptions", name := "descriptorLength", desc := "(B)I" } : Jvm.MethodName) prog_14_method_12_code (1 : Nat) (Option.some Jvm.ClassFile.FieldType.int)).before args0 about1 = true := code_word (m := ⟨2, 0⟩) (meth := k2m0) (c := k2c0) (by decide +kernel) rfl rfl rfl (by decide +kernel)
def codes1 : List Jvm.Cond := [Jvm.Cond.code x code maxLocals ret, Jvm.Cond.code ({ cls := "com/example/nimblepack/nimblepack/Lz4FrameOptions", name := "descriptorLength", desc := "(B)I" } : Jvm.MethodName) prog_14_method_12_code (1 : Nat) (Option.some Jvm.ClassFile.FieldType.int)]
set_option maxRecDepth 65536 in
theorem codes_eq : words1.filter isCode = codes1 := rfl
theorem w_codes : ∀ c ∈ words1.filter isCode, c.before args0 about1 = true := by
  rw [codes_eq]
  intro c hc
  simp only [codes1, List.mem_cons, List.not_mem_nil, or_false] at hc
  rcases hc with rfl | rfl
  · exact w_c0
  · exact w_c1
set_option maxRecDepth 65536 in
theorem w_t1 : words1.all (fun c => isCode c || c.before args0 about1) = true := by decide +kernel
theorem w_tables : (allAtoms (Jvm.Cond.code x code maxLocals ret :: tables_1)).before args0 about1 = true := by
  rw [allAtoms_all]
  show words1.all (fun c => c.before args0 about1) = true
  refine all_split ?_ w_codes
  rw [w_t1]
set_option maxRecDepth 65536 in
theorem w_case : (Jvm.Cond.and given_1 narrow_1).before args0 about1 = true := by decide +kernel
theorem w_applies : (headSpec (Jvm.Cond.code x code maxLocals ret :: tables_1) room_1).applies x e0.platform about1 = true :=
  (Spec.applies_iff w_frames).mpr ⟨w_running, w_runnable, w_alone, w_named, w_hears, w_ripe, w_room, w_tables⟩
theorem atStart : AtStart classFile x code maxLocals ret World_1 tables_1 room_1 Calls_1 rest_1 Pre_1 launch0 p0 e0 about1 theMethod args0 below0 :=
  ⟨lists_1, trivial, launch0.admits_env _ _ _, launch0.least_env, fairChoices_fair.cas, fairChoices_fair.clock, w_frames, w_args, w_heap, w_applies, trivial, trivial, w_case⟩
end start1
theorem witness_1 : WitnessClaimed_1 := ⟨start1.p0, start1.e0, start1.about1, start1.theMethod, start1.args0, start1.below0, start1.atStart⟩
end Jvm.Pilot.@@N@@
