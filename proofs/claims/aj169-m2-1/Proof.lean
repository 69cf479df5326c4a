import JvmDerived
import JvmDerived.Pilot.@@N@@Statement
import JvmDerived.Pilot.@@N@@Code
set_option linter.unusedVariables false
set_option linter.unusedSimpArgs false
@@BLOCK:NumsL.lean.txt@@
namespace Jvm.RoadKit
open Sem ClassFile Op Lib Jvm.Stand Jvm.Free Jvm.LawKit
section New
variable {p : Program} {l : Launch} {e : Env} {R : Room} {s : State} {m : MethodId} {args : Array Value} {below : List Frame} {meth : Method} {c : Code} {T : State} {locs : List Loc} {cells slots : Nat}
theorem retI (X : Stand p l e R s m args below meth c T locs cells slots) (hx : p.tables.exec = Jvm.exec) {pc : Nat} {Ls : Array Slot} {z : Int32} {rest : List Value} (hret : meth.sig.returnType = some .int) (hd : decode c.code pc = .ok (.ireturn, 1)) {fs : List Frame}
    (hl : ∀ (f : JFrame) (acts : List Action), f.method = m → f.locked = none → f.entered = [] → (doReturn e (T.setTop f) acts (some (.int z))).1 = T.setFrames fs) : Steps p.tables e below (T.setTop (mkF m pc Ls (.int z :: rest))) (T.setFrames fs) := by
  have hm' : T.vm.method? m = some meth := X.method'
  have hn : narrow .int (.int z) = .int z := rfl
  show Steps p.tables e below (T.setTop { method := m, pc := pc, locals := Ls, stack := _ :: rest, locked := none }) _
  jvm_step X.here [X.here.top, hx, hd, hm', hret, hn]
  first | (intro acts; rw [hl _ acts rfl rfl rfl]) | rw [hl _ _ rfl rfl rfl]
  exact Steps.refl _
end New
end Jvm.RoadKit
namespace Jvm.Pilot.@@N@@
open Jvm Jvm.ClassFile Sem Op Lib Jvm.Free Jvm.Stand Jvm.LawKit Jvm.RoadKit Bundle Jvm.Pilot.@@N@@.Jvm.D
open Jvm.Free.XT (ushr ushrL cmpL)
/-- from the frame g over the state T the run comes to a return of which Q holds; K cells and N slots are made at the most -/
def Go (p : Program) (e : Env) (below : List Frame) (s : State) (Q : Option Value → Heap → List Loc → Prop) (K N : Nat) (T : State) (g : JFrame) : Prop :=
  ∃ s₂ o, Steps p.tables e below (T.setTop g) s₂ ∧ s₂.status = .running ∧ Ended s₂ below o ∧ ∃ v L, o = .returned v ∧ Q v s₂.heap L ∧ FrameEnd s o s₂ L K N
section Own
variable {p : Program} {l : Launch} {e : Env} {R : Room} {s : State} {m : MethodId} {args : Array Value} {below : List Frame} {meth : Method} {c : Code} {T T' : State} {locs : List Loc} {cells slots K N : Nat} {Q : Option Value → Heap → List Loc → Prop} {g : JFrame}
theorem Go.st (g' : JFrame) (k : ∀ t, Steps p.tables e below (T'.setTop g') t → Steps p.tables e below (T.setTop g) t) (h : Go p e below s Q K N T' g') : Go p e below s Q K N T g := by
  obtain ⟨s₂, o, h1, h2⟩ := h
  exact ⟨s₂, o, k _ h1, h2⟩
theorem Go.of_eq {g' : JFrame} (q : g = g') (h : Go p e below s Q K N T g') : Go p e below s Q K N T g := q ▸ h
theorem Go.retZ (X : Stand p l e R s m args below meth c T locs cells slots) (hx : p.tables.exec = Jvm.exec) (hlk : meth.locks = false) {pc : Nat} {Ls : Array Slot} {z : Int32} {rest : List Value} {t : FieldType} (ht : t = .boolean ∨ t = .byte ∨ t = .char ∨ t = .short) (hret : meth.sig.returnType = some t) (hd : decode c.code pc = .ok (.ireturn, 1))
    (hq : Q (some (.int (nar t z))) T.heap locs) (hk : cells ≤ K) (hn : slots ≤ N) : Go p e below s Q K N T (mkF m pc Ls (.int z :: rest)) := by
  obtain ⟨fs, hr, hrun, hended, hW, hsame⟩ := X.leave (v := some (.int (nar t z))) (fun h => by rw [hret] at h; cases h) hlk
  exact ⟨_, _, retN X hx hret ht hd hr, hrun, hended, _, _, rfl, hq, ⟨_, rfl⟩, hW, hsame.mono hk hn⟩
theorem Go.retI (X : Stand p l e R s m args below meth c T locs cells slots) (hx : p.tables.exec = Jvm.exec) (hlk : meth.locks = false) {pc : Nat} {Ls : Array Slot} {z : Int32} {rest : List Value} (hret : meth.sig.returnType = some .int) (hd : decode c.code pc = .ok (.ireturn, 1))
    (hq : Q (some (.int z)) T.heap locs) (hk : cells ≤ K) (hn : slots ≤ N) : Go p e below s Q K N T (mkF m pc Ls (.int z :: rest)) := by
  obtain ⟨fs, hr, hrun, hended, hW, hsame⟩ := X.leave (v := some (.int z)) (fun h => by rw [hret] at h; cases h) hlk
  exact ⟨_, _, RoadKit.retI X hx hret hd hr, hrun, hended, _, _, rfl, hq, ⟨_, rfl⟩, hW, hsame.mono hk hn⟩
theorem Go.retJ (X : Stand p l e R s m args below meth c T locs cells slots) (hx : p.tables.exec = Jvm.exec) (hlk : meth.locks = false) {pc : Nat} {Ls : Array Slot} {z : Int64} (hret : meth.sig.returnType = some .long) (hd : decode c.code pc = .ok (.lreturn, 1))
    (hq : Q (some (.long z)) T.heap locs) (hk : cells ≤ K) (hn : slots ≤ N) : Go p e below s Q K N T (mkF m pc Ls [.long z]) := by
  obtain ⟨fs, hr, hrun, hended, hW, hsame⟩ := X.leave (v := some (.long z)) (fun h => by rw [hret] at h; cases h) hlk
  exact ⟨_, _, X.lreturnOut hx hret hd hr, hrun, hended, _, _, rfl, hq, ⟨_, rfl⟩, hW, hsame.mono hk hn⟩
theorem Go.retV (X : Stand p l e R s m args below meth c T locs cells slots) (hx : p.tables.exec = Jvm.exec) (hlk : meth.locks = false) {pc : Nat} {Ls : Array Slot} (hret : meth.sig.returnType = none) (hd : decode c.code pc = .ok (.return_, 1))
    (hq : Q none T.heap locs) (hk : cells ≤ K) (hn : slots ≤ N) : Go p e below s Q K N T (mkF m pc Ls []) := by
  obtain ⟨fs, hr, hrun, hended, hW, hsame⟩ := X.leave (v := none) (fun _ => rfl) hlk
  exact ⟨_, _, X.returnOut hx hret hd hr, hrun, hended, _, _, rfl, hq, ⟨_, rfl⟩, hW, hsame.mono hk hn⟩
end Own
theorem own_c1 {x y : Int64} (h : y < x) : cmpL x y = 1 := by unfold cmpL; rw [if_pos h]
theorem own_c0 {x y : Int64} (h : x = y) : cmpL x y = 0 := by unfold cmpL; rw [if_neg (by subst h; exact Int64.lt_irrefl), if_pos h]
theorem own_cm {x y : Int64} (h : x < y) : cmpL x y = -1 := by unfold cmpL; rw [if_neg (Int64.lt_asymm h), if_neg (Int64.ne_of_lt h)]
theorem own_tri (x y : Int64) : x < y ∨ x = y ∨ y < x := by
  rcases Int.lt_trichotomy x.toInt y.toInt with h | h | h
  · exact Or.inl (Int64.lt_iff_toInt_lt.mpr h)
  · exact Or.inr (Or.inl (Int64.toInt_inj.mp h))
  · exact Or.inr (Or.inr (Int64.lt_iff_toInt_lt.mpr h))
theorem own_llT {x y : Int64} (h : x < y) : ifCond.holds .lt (cmpL x y) = true ∧ ifCond.holds .ge (cmpL x y) = false := by rw [own_cm h]; decide
theorem own_llF {x y : Int64} (h : ¬ x < y) : ifCond.holds .lt (cmpL x y) = false ∧ ifCond.holds .ge (cmpL x y) = true := by
  rcases own_tri x y with q | q | q
  · exact absurd q h
  · rw [own_c0 q]; decide
  · rw [own_c1 q]; decide
theorem own_lgT {x y : Int64} (h : y < x) : ifCond.holds .gt (cmpL x y) = true ∧ ifCond.holds .le (cmpL x y) = false := by rw [own_c1 h]; decide
theorem own_lgF {x y : Int64} (h : ¬ y < x) : ifCond.holds .gt (cmpL x y) = false ∧ ifCond.holds .le (cmpL x y) = true := by
  rcases own_tri x y with q | q | q
  · rw [own_cm q]; decide
  · rw [own_c0 q]; decide
  · exact absurd q h
theorem own_leT {x y : Int64} (h : x = y) : ifCond.holds .eq (cmpL x y) = true ∧ ifCond.holds .ne (cmpL x y) = false := by rw [own_c0 h]; decide
theorem own_leF {x y : Int64} (h : ¬ x = y) : ifCond.holds .eq (cmpL x y) = false ∧ ifCond.holds .ne (cmpL x y) = true := by
  rcases own_tri x y with q | q | q
  · rw [own_cm q]; decide
  · exact absurd q h
  · rw [own_c1 q]; decide
theorem own_chr (x : Int32) : 0 ≤ (x.toUInt32.toUInt16.toUInt32.toInt32).toInt ∧ (x.toUInt32.toUInt16.toUInt32.toInt32).toInt < 65536 := by
  have h : ∀ u : UInt16, (u.toUInt32.toInt32).toInt = u.toNat := fun u => by
    have hu := u.toNat_lt
    show ((u.toUInt32).toBitVec).toInt = _
    have hm : (u.toUInt32).toBitVec.toNat = u.toNat := by
      show (u.toUInt32).toNat = _
      simp
    rw [BitVec.toInt_eq_toNat_cond, hm, if_pos (by omega)]
  have h2 := (x.toUInt32.toUInt16).toNat_lt
  rw [h]; omega
theorem own_small (n : Nat) (c : Int32) (h0 : 0 ≤ c.toInt) (h1 : c.toInt < n) (hn : n ≤ 2147483647) : ∃ k : Fin n, c = Int32.ofNat k.val := by
  refine ⟨⟨c.toInt.toNat, by omega⟩, Int32.toInt_inj.mp ?_⟩
  rw [Int32.toInt_ofNat_of_lt (by show c.toInt.toNat < _; omega)]
  show _ = ((c.toInt.toNat : Nat) : Int)
  omega
theorem pn_0 : plainName "com/example/brinewire/brinewire/Format" = true := by first | (simp [plainName, overriddenIn]; done) | decide +kernel
theorem d1_0 : decode prog_18_method_2_code 0 = .ok (.iload_n 0, 1) := by decide +kernel
theorem d1_1 : decode prog_18_method_2_code 1 = .ok (.ifCond .eq 24, 3) := by decide +kernel
theorem d1_4 : decode prog_18_method_2_code 4 = .ok (.iload_n 0, 1) := by decide +kernel
theorem d1_5 : decode prog_18_method_2_code 5 = .ok (.iconst 1, 1) := by decide +kernel
theorem d1_6 : decode prog_18_method_2_code 6 = .ok (.if_icmp .eq 19, 3) := by decide +kernel
theorem d1_9 : decode prog_18_method_2_code 9 = .ok (.iload_n 0, 1) := by decide +kernel
theorem d1_10 : decode prog_18_method_2_code 10 = .ok (.iconst 2, 1) := by decide +kernel
theorem d1_11 : decode prog_18_method_2_code 11 = .ok (.if_icmp .eq 14, 3) := by decide +kernel
theorem d1_14 : decode prog_18_method_2_code 14 = .ok (.iload_n 0, 1) := by decide +kernel
theorem d1_15 : decode prog_18_method_2_code 15 = .ok (.iconst 4, 1) := by decide +kernel
theorem d1_16 : decode prog_18_method_2_code 16 = .ok (.if_icmp .eq 9, 3) := by decide +kernel
theorem d1_19 : decode prog_18_method_2_code 19 = .ok (.iload_n 0, 1) := by decide +kernel
theorem d1_20 : decode prog_18_method_2_code 20 = .ok (.bipush 16, 2) := by decide +kernel
theorem d1_22 : decode prog_18_method_2_code 22 = .ok (.if_icmp .ne 7, 3) := by decide +kernel
theorem d1_25 : decode prog_18_method_2_code 25 = .ok (.iconst 1, 1) := by decide +kernel
theorem d1_26 : decode prog_18_method_2_code 26 = .ok (.goto 4, 3) := by decide +kernel
theorem d1_29 : decode prog_18_method_2_code 29 = .ok (.iconst 0, 1) := by decide +kernel
theorem d1_30 : decode prog_18_method_2_code 30 = .ok (.ireturn, 1) := by decide +kernel
theorem ef_1 (m : MethodId) (p0 : Int32) : entryFrame m #[(.int p0)] 1 = (mkF m 0 #[.val (.int p0)] []) := by first | (simp [entryFrame, mkF, argsToLocals, Value.category]; done) | rfl
def f_1 (p0 : Int32) : Int32 := (if p0 = (0 : Int32) then (1 : Int32) else (if p0 = (1 : Int32) then (1 : Int32) else (if p0 = (2 : Int32) then (1 : Int32) else (if p0 = (4 : Int32) then (1 : Int32) else (if p0 = (16 : Int32) then (1 : Int32) else (0 : Int32))))))
def Q_1 (p0 : Int32) (h0 : Heap) (n0 : Nat) (v : Option Value) (h : Heap) (L : List Loc) : Prop := v = some (.int (f_1 p0)) ∧ Fr n0 L ∧ h = h0
set_option maxRecDepth 65536 in
set_option maxHeartbeats 40000000 in
theorem rm_1 (l : Launch) (Z : State) (a0 : Array Value) (hw : ∀ d ∈ tables_1, d.before a0 Z = true) (ws : List Jvm.Cond) (p0 : Int32) (h0 : Heap) (n0 : Nat) (Z0 : n0 ≤ h0.size) :
    MetFree l (⟨"com/example/brinewire/brinewire/Format", "registeredFlags", "(I)Z"⟩ : MethodName) (head1 (Jvm.Cond.code (⟨"com/example/brinewire/brinewire/Format", "registeredFlags", "(I)Z"⟩ : MethodName) prog_18_method_2_code 1 (some .boolean) :: ws) ({ frames := 0, cells := 0, slots := 0, locals := 0 } : Room)) (fun a U => a = #[(.int p0)] ∧ Z.Warmed39 U.vm ∧ U.heap = h0) (fun _ _ _ _ _ => True) (fun _ U o U' => ∃ v L, o = .returned v ∧ Q_1 p0 h0 n0 v U'.heap L ∧ FrameEnd U o U' L ({ frames := 0, cells := 0, slots := 0, locals := 0 } : Room).cells ({ frames := 0, cells := 0, slots := 0, locals := 0 } : Room).slots) := by
  refine MetFree.of_bodySF (plainFor_of_name pn_0) hisR ?_
  intro p e s m args below meth c s₁ Bd hml0 hP hK
  obtain ⟨rfl, hZ, hh⟩ := hP
  have hx := Bd.exec
  have hby := Bd.bytes
  have hml : c.maxLocals = 1 := hml0
  have hown : s.vm.findClass "com/example/brinewire/brinewire/Format" = some m.cls := findClass_of_methodNamed Bd.named
  have X0 : Stand p l e ({ frames := 0, cells := 0, slots := 0, locals := 0 } : Room) s m #[(.int p0)] below meth c s₁ [] 0 0 := Stand.of_body Bd
  have e0 : s₁.heap = h0 := by rw [← hh, Bd.state]; rfl
  have N0 := Fr.nil n0
  show Go p e below s (Q_1 p0 h0 n0) 0 0 s₁ (entryFrame m #[(.int p0)] 1)
  refine Go.of_eq (ef_1 m p0) ?_
  refine Go.st (mkF m 1 #[.val (.int p0)] [(.int p0)]) (fun _ k => XS.iloadN X0.here hx rfl (hb hby d1_0) rfl k) ?_
  by_cases hc1_1 : p0 = (0 : Int32)
  ·
    refine Go.st (mkF m 25 #[.val (.int p0)] []) (fun _ k => XS.ifYes X0.here hx rfl (pc0 := 1) (pc' := 25) rfl (hb hby d1_1) rfl ((if0 _ _).trans (teq hc1_1).1) (by decide) (by decide) k) ?_
    refine Go.st (mkF m 26 #[.val (.int p0)] [(.int (1 : Int32))]) (fun _ k => XS.iconst X0.here hx rfl (hb hby d1_25) k) ?_
    refine Go.st (mkF m 30 #[.val (.int p0)] [(.int (1 : Int32))]) (fun _ k => XS.goto X0.here hx rfl (pc0 := 26) (pc' := 30) rfl (hb hby d1_26) (by decide) (by decide) k) ?_
    exact Go.retZ X0 hx Bd.notSynchronized (t := .boolean) (by simp) Bd.returns (hb hby d1_30) ⟨congrArg (fun z => some (Value.int z)) (show nar .boolean (1 : Int32) = f_1 p0 from by unfold f_1; rw [if_pos hc1_1]; first | done | rfl), N0, e0⟩ (by decide) (by decide)
  ·
    refine Go.st (mkF m 4 #[.val (.int p0)] []) (fun _ k => XS.ifNo X0.here hx rfl (hb hby d1_1) rfl ((if0 _ _).trans (feq hc1_1).1) k) ?_
    refine Go.st (mkF m 5 #[.val (.int p0)] [(.int p0)]) (fun _ k => XS.iloadN X0.here hx rfl (hb hby d1_4) rfl k) ?_
    refine Go.st (mkF m 6 #[.val (.int p0)] [(.int (1 : Int32)), (.int p0)]) (fun _ k => XS.iconst X0.here hx rfl (hb hby d1_5) k) ?_
    by_cases hc6_2 : p0 = (1 : Int32)
    ·
      refine Go.st (mkF m 25 #[.val (.int p0)] []) (fun _ k => XS.icmpYes X0.here hx rfl (pc0 := 6) (pc' := 25) rfl (hb hby d1_6) rfl (teq hc6_2).1 (by decide) (by decide) k) ?_
      refine Go.st (mkF m 26 #[.val (.int p0)] [(.int (1 : Int32))]) (fun _ k => XS.iconst X0.here hx rfl (hb hby d1_25) k) ?_
      refine Go.st (mkF m 30 #[.val (.int p0)] [(.int (1 : Int32))]) (fun _ k => XS.goto X0.here hx rfl (pc0 := 26) (pc' := 30) rfl (hb hby d1_26) (by decide) (by decide) k) ?_
      exact Go.retZ X0 hx Bd.notSynchronized (t := .boolean) (by simp) Bd.returns (hb hby d1_30) ⟨congrArg (fun z => some (Value.int z)) (show nar .boolean (1 : Int32) = f_1 p0 from by unfold f_1; rw [if_neg hc1_1, if_pos hc6_2]; first | done | rfl), N0, e0⟩ (by decide) (by decide)
    ·
      refine Go.st (mkF m 9 #[.val (.int p0)] []) (fun _ k => XS.icmpNo X0.here hx rfl (hb hby d1_6) rfl (feq hc6_2).1 k) ?_
      refine Go.st (mkF m 10 #[.val (.int p0)] [(.int p0)]) (fun _ k => XS.iloadN X0.here hx rfl (hb hby d1_9) rfl k) ?_
      refine Go.st (mkF m 11 #[.val (.int p0)] [(.int (2 : Int32)), (.int p0)]) (fun _ k => XS.iconst X0.here hx rfl (hb hby d1_10) k) ?_
      by_cases hc11_3 : p0 = (2 : Int32)
      ·
        refine Go.st (mkF m 25 #[.val (.int p0)] []) (fun _ k => XS.icmpYes X0.here hx rfl (pc0 := 11) (pc' := 25) rfl (hb hby d1_11) rfl (teq hc11_3).1 (by decide) (by decide) k) ?_
        refine Go.st (mkF m 26 #[.val (.int p0)] [(.int (1 : Int32))]) (fun _ k => XS.iconst X0.here hx rfl (hb hby d1_25) k) ?_
        refine Go.st (mkF m 30 #[.val (.int p0)] [(.int (1 : Int32))]) (fun _ k => XS.goto X0.here hx rfl (pc0 := 26) (pc' := 30) rfl (hb hby d1_26) (by decide) (by decide) k) ?_
        exact Go.retZ X0 hx Bd.notSynchronized (t := .boolean) (by simp) Bd.returns (hb hby d1_30) ⟨congrArg (fun z => some (Value.int z)) (show nar .boolean (1 : Int32) = f_1 p0 from by unfold f_1; rw [if_neg hc1_1, if_neg hc6_2, if_pos hc11_3]; first | done | rfl), N0, e0⟩ (by decide) (by decide)
      ·
        refine Go.st (mkF m 14 #[.val (.int p0)] []) (fun _ k => XS.icmpNo X0.here hx rfl (hb hby d1_11) rfl (feq hc11_3).1 k) ?_
        refine Go.st (mkF m 15 #[.val (.int p0)] [(.int p0)]) (fun _ k => XS.iloadN X0.here hx rfl (hb hby d1_14) rfl k) ?_
        refine Go.st (mkF m 16 #[.val (.int p0)] [(.int (4 : Int32)), (.int p0)]) (fun _ k => XS.iconst X0.here hx rfl (hb hby d1_15) k) ?_
        by_cases hc16_4 : p0 = (4 : Int32)
        ·
          refine Go.st (mkF m 25 #[.val (.int p0)] []) (fun _ k => XS.icmpYes X0.here hx rfl (pc0 := 16) (pc' := 25) rfl (hb hby d1_16) rfl (teq hc16_4).1 (by decide) (by decide) k) ?_
          refine Go.st (mkF m 26 #[.val (.int p0)] [(.int (1 : Int32))]) (fun _ k => XS.iconst X0.here hx rfl (hb hby d1_25) k) ?_
          refine Go.st (mkF m 30 #[.val (.int p0)] [(.int (1 : Int32))]) (fun _ k => XS.goto X0.here hx rfl (pc0 := 26) (pc' := 30) rfl (hb hby d1_26) (by decide) (by decide) k) ?_
          exact Go.retZ X0 hx Bd.notSynchronized (t := .boolean) (by simp) Bd.returns (hb hby d1_30) ⟨congrArg (fun z => some (Value.int z)) (show nar .boolean (1 : Int32) = f_1 p0 from by unfold f_1; rw [if_neg hc1_1, if_neg hc6_2, if_neg hc11_3, if_pos hc16_4]; first | done | rfl), N0, e0⟩ (by decide) (by decide)
        ·
          refine Go.st (mkF m 19 #[.val (.int p0)] []) (fun _ k => XS.icmpNo X0.here hx rfl (hb hby d1_16) rfl (feq hc16_4).1 k) ?_
          refine Go.st (mkF m 20 #[.val (.int p0)] [(.int p0)]) (fun _ k => XS.iloadN X0.here hx rfl (hb hby d1_19) rfl k) ?_
          refine Go.st (mkF m 22 #[.val (.int p0)] [(.int (16 : Int32)), (.int p0)]) (fun _ k => XS.bipush X0.here hx rfl (hb hby d1_20) k) ?_
          by_cases hc22_5 : p0 = (16 : Int32)
          ·
            refine Go.st (mkF m 25 #[.val (.int p0)] []) (fun _ k => XS.icmpNo X0.here hx rfl (hb hby d1_22) rfl (teq hc22_5).2 k) ?_
            refine Go.st (mkF m 26 #[.val (.int p0)] [(.int (1 : Int32))]) (fun _ k => XS.iconst X0.here hx rfl (hb hby d1_25) k) ?_
            refine Go.st (mkF m 30 #[.val (.int p0)] [(.int (1 : Int32))]) (fun _ k => XS.goto X0.here hx rfl (pc0 := 26) (pc' := 30) rfl (hb hby d1_26) (by decide) (by decide) k) ?_
            exact Go.retZ X0 hx Bd.notSynchronized (t := .boolean) (by simp) Bd.returns (hb hby d1_30) ⟨congrArg (fun z => some (Value.int z)) (show nar .boolean (1 : Int32) = f_1 p0 from by unfold f_1; rw [if_neg hc1_1, if_neg hc6_2, if_neg hc11_3, if_neg hc16_4, if_pos hc22_5]; first | done | rfl), N0, e0⟩ (by decide) (by decide)
          ·
            refine Go.st (mkF m 29 #[.val (.int p0)] []) (fun _ k => XS.icmpYes X0.here hx rfl (pc0 := 22) (pc' := 29) rfl (hb hby d1_22) rfl (feq hc22_5).2 (by decide) (by decide) k) ?_
            refine Go.st (mkF m 30 #[.val (.int p0)] [(.int (0 : Int32))]) (fun _ k => XS.iconst X0.here hx rfl (hb hby d1_29) k) ?_
            exact Go.retZ X0 hx Bd.notSynchronized (t := .boolean) (by simp) Bd.returns (hb hby d1_30) ⟨congrArg (fun z => some (Value.int z)) (show nar .boolean (0 : Int32) = f_1 p0 from by unfold f_1; rw [if_neg hc1_1, if_neg hc6_2, if_neg hc11_3, if_neg hc16_4, if_neg hc22_5]; first | done | rfl), N0, e0⟩ (by decide) (by decide)
theorem pd_0 : parseMethodDescriptor "(I)Z" = some ⟨[.int], some .boolean⟩ := by decide +kernel
theorem pn_1 : plainName "com/example/brinewire/brinewire/FormatRegisteredFlagsPinLaw" = true := by first | (simp [plainName, overriddenIn]; done) | decide +kernel
theorem ef_0 (m : MethodId) (p0 : Int32) (p1 : Int32) : entryFrame m #[(.int p0), (.int p1)] maxLocals = (mkF m 0 #[.val (.int p0), .val (.int p1), .unset, .unset, .unset, .unset, .unset, .unset] []) := by first | (simp [entryFrame, mkF, argsToLocals, Value.category, maxLocals]; done) | rfl
def v_mode (p1 : Int32) : Int32 := (p1 &&& (3 : Int32))
def v_f (p0 : Int32) (p1 : Int32) : Int32 := (if (v_mode p1) = (0 : Int32) then p0 else (if (v_mode p1) = (1 : Int32) then (p0 &&& (31 : Int32)) else (if (v_mode p1) = (2 : Int32) then ((1 : Int32) <<< ((p0 &&& (31 : Int32)) &&& 31)) else (((1 : Int32) <<< ((p0 &&& (31 : Int32)) &&& 31)) ^^^ ((1 : Int32) <<< (((ushr p0 (5 : Int32)) &&& (31 : Int32)) &&& 31))))))
def j0_62_S0 (p0 : Int32) (p1 : Int32) : Int32 := (if ((v_f p0 p1) &&& ((v_f p0 p1) - (1 : Int32))) = (0 : Int32) then (1 : Int32) else (0 : Int32))
def j0_82_S0 (p0 : Int32) (p1 : Int32) : Int32 := (if ((v_f p0 p1) &&& (-24 : Int32)) = (0 : Int32) then (1 : Int32) else (0 : Int32))
def j0_94_S0 (p0 : Int32) (p1 : Int32) : Int32 := (if (j0_62_S0 p0 p1) = (0 : Int32) then (0 : Int32) else (if (j0_82_S0 p0 p1) = (0 : Int32) then (0 : Int32) else (1 : Int32)))
def f_0 (p0 : Int32) (p1 : Int32) : Int32 := (if (f_1 (v_f p0 p1)) = (j0_94_S0 p0 p1) then (1 : Int32) else (0 : Int32))
def Q_0 (p0 : Int32) (p1 : Int32) (h0 : Heap) (n0 : Nat) (v : Option Value) (h : Heap) (L : List Loc) : Prop := v = some (.int (f_0 p0 p1)) ∧ Fr n0 L ∧ h = h0
set_option maxRecDepth 65536 in
set_option maxHeartbeats 40000000 in
theorem rm_0 (l : Launch) (Z : State) (a0 : Array Value) (hw : ∀ d ∈ tables_1, d.before a0 Z = true) (ws : List Jvm.Cond) (p0 : Int32) (p1 : Int32) (h0 : Heap) (n0 : Nat) (Z0 : n0 ≤ h0.size) :
    MetFree l x (head1 (Jvm.Cond.code x code maxLocals ret :: ws) room_1) (fun a U => a = #[(.int p0), (.int p1)] ∧ Z.Warmed39 U.vm ∧ U.heap = h0) (fun _ _ _ _ _ => True) (fun _ U o U' => ∃ v L, o = .returned v ∧ Q_0 p0 p1 h0 n0 v U'.heap L ∧ FrameEnd U o U' L 0 0) := by
  refine MetFree.of_bodySF (plainFor_of_name pn_1) hisR ?_
  intro p e s m args below meth c s₁ Bd hml0 hP hK
  obtain ⟨rfl, hZ, hh⟩ := hP
  have hx := Bd.exec
  have hby := Bd.bytes
  have hml : c.maxLocals = 8 := hml0
  have hown : s.vm.findClass "com/example/brinewire/brinewire/FormatRegisteredFlagsPinLaw" = some m.cls := findClass_of_methodNamed Bd.named
  have X0 : Stand p l e room_1 s m #[(.int p0), (.int p1)] below meth c s₁ [] 0 0 := Stand.of_body Bd
  have e0 : s₁.heap = h0 := by rw [← hh, Bd.state]; rfl
  have N0 := Fr.nil n0
  show Go p e below s (Q_0 p0 p1 h0 n0) 0 0 s₁ (entryFrame m #[(.int p0), (.int p1)] maxLocals)
  refine Go.of_eq (ef_0 m p0 p1) ?_
  refine Go.st (mkF m 1 #[.val (.int p0), .val (.int p1), .unset, .unset, .unset, .unset, .unset, .unset] [(.int p1)]) (fun _ k => XS.iloadN X0.here hx rfl (hb hby at_0) rfl k) ?_
  refine Go.st (mkF m 2 #[.val (.int p0), .val (.int p1), .unset, .unset, .unset, .unset, .unset, .unset] [(.int (3 : Int32)), (.int p1)]) (fun _ k => XS.iconst X0.here hx rfl (hb hby at_1) k) ?_
  refine Go.st (mkF m 3 #[.val (.int p0), .val (.int p1), .unset, .unset, .unset, .unset, .unset, .unset] [(.int (p1 &&& (3 : Int32)))]) (fun _ k => XS.iand X0.here hx rfl (hb hby at_2) rfl k) ?_
  refine Go.st (mkF m 4 #[.val (.int p0), .val (.int p1), .val (.int (v_mode p1)), .unset, .unset, .unset, .unset, .unset] []) (fun _ k => XS.istoreN X0.here hx rfl (hb hby at_3) rfl (l' := #[.val (.int p0), .val (.int p1), .val (.int (v_mode p1)), .unset, .unset, .unset, .unset, .unset]) rfl k) ?_
  refine Go.st (mkF m 5 #[.val (.int p0), .val (.int p1), .val (.int (v_mode p1)), .unset, .unset, .unset, .unset, .unset] [(.int (v_mode p1))]) (fun _ k => XS.iloadN X0.here hx rfl (hb hby at_4) rfl k) ?_
  have J5 : Go p e below s (Q_0 p0 p1 h0 n0) 0 0 s₁ (mkF m 57 #[.val (.int p0), .val (.int p1), .val (.int (v_mode p1)), .val (.int (v_f p0 p1)), .unset, .unset, .unset, .unset] []) := by
    refine Go.st (mkF m 58 #[.val (.int p0), .val (.int p1), .val (.int (v_mode p1)), .val (.int (v_f p0 p1)), .unset, .unset, .unset, .unset] [(.int (v_f p0 p1))]) (fun _ k => XS.iloadN X0.here hx rfl (hb hby at_57) rfl k) ?_
    refine Go.st (mkF m 59 #[.val (.int p0), .val (.int p1), .val (.int (v_mode p1)), .val (.int (v_f p0 p1)), .unset, .unset, .unset, .unset] [(.int (v_f p0 p1)), (.int (v_f p0 p1))]) (fun _ k => XS.iloadN X0.here hx rfl (hb hby at_58) rfl k) ?_
    refine Go.st (mkF m 60 #[.val (.int p0), .val (.int p1), .val (.int (v_mode p1)), .val (.int (v_f p0 p1)), .unset, .unset, .unset, .unset] [(.int (1 : Int32)), (.int (v_f p0 p1)), (.int (v_f p0 p1))]) (fun _ k => XS.iconst X0.here hx rfl (hb hby at_59) k) ?_
    refine Go.st (mkF m 61 #[.val (.int p0), .val (.int p1), .val (.int (v_mode p1)), .val (.int (v_f p0 p1)), .unset, .unset, .unset, .unset] [(.int ((v_f p0 p1) - (1 : Int32))), (.int (v_f p0 p1))]) (fun _ k => XS.isub X0.here hx rfl (hb hby at_60) rfl k) ?_
    refine Go.st (mkF m 62 #[.val (.int p0), .val (.int p1), .val (.int (v_mode p1)), .val (.int (v_f p0 p1)), .unset, .unset, .unset, .unset] [(.int ((v_f p0 p1) &&& ((v_f p0 p1) - (1 : Int32))))]) (fun _ k => XS.iand X0.here hx rfl (hb hby at_61) rfl k) ?_
    have J62 : Go p e below s (Q_0 p0 p1 h0 n0) 0 0 s₁ (mkF m 70 #[.val (.int p0), .val (.int p1), .val (.int (v_mode p1)), .val (.int (v_f p0 p1)), .unset, .unset, .unset, .unset] [(.int (j0_62_S0 p0 p1))]) := by
      refine Go.st (mkF m 72 #[.val (.int p0), .val (.int p1), .val (.int (v_mode p1)), .val (.int (v_f p0 p1)), .val (.int (j0_62_S0 p0 p1)), .unset, .unset, .unset] []) (fun _ k => XS.istore X0.here hx rfl (hb hby at_70) rfl (l' := #[.val (.int p0), .val (.int p1), .val (.int (v_mode p1)), .val (.int (v_f p0 p1)), .val (.int (j0_62_S0 p0 p1)), .unset, .unset, .unset]) rfl k) ?_
      refine Go.st (mkF m 74 #[.val (.int p0), .val (.int p1), .val (.int (v_mode p1)), .val (.int (v_f p0 p1)), .val (.int (j0_62_S0 p0 p1)), .unset, .unset, .unset] [(.int (23 : Int32))]) (fun _ k => XS.bipush X0.here hx rfl (hb hby at_72) k) ?_
      refine Go.st (mkF m 76 #[.val (.int p0), .val (.int p1), .val (.int (v_mode p1)), .val (.int (v_f p0 p1)), .val (.int (j0_62_S0 p0 p1)), .val (.int (23 : Int32)), .unset, .unset] []) (fun _ k => XS.istore X0.here hx rfl (hb hby at_74) rfl (l' := #[.val (.int p0), .val (.int p1), .val (.int (v_mode p1)), .val (.int (v_f p0 p1)), .val (.int (j0_62_S0 p0 p1)), .val (.int (23 : Int32)), .unset, .unset]) rfl k) ?_
      refine Go.st (mkF m 77 #[.val (.int p0), .val (.int p1), .val (.int (v_mode p1)), .val (.int (v_f p0 p1)), .val (.int (j0_62_S0 p0 p1)), .val (.int (23 : Int32)), .unset, .unset] [(.int (v_f p0 p1))]) (fun _ k => XS.iloadN X0.here hx rfl (hb hby at_76) rfl k) ?_
      refine Go.st (mkF m 79 #[.val (.int p0), .val (.int p1), .val (.int (v_mode p1)), .val (.int (v_f p0 p1)), .val (.int (j0_62_S0 p0 p1)), .val (.int (23 : Int32)), .unset, .unset] [(.int (23 : Int32)), (.int (v_f p0 p1))]) (fun _ k => XS.iload X0.here hx rfl (hb hby at_77) rfl k) ?_
      refine Go.st (mkF m 80 #[.val (.int p0), .val (.int p1), .val (.int (v_mode p1)), .val (.int (v_f p0 p1)), .val (.int (j0_62_S0 p0 p1)), .val (.int (23 : Int32)), .unset, .unset] [(.int (-1 : Int32)), (.int (23 : Int32)), (.int (v_f p0 p1))]) (fun _ k => XS.iconst X0.here hx rfl (hb hby at_79) k) ?_
      refine Go.st (mkF m 81 #[.val (.int p0), .val (.int p1), .val (.int (v_mode p1)), .val (.int (v_f p0 p1)), .val (.int (j0_62_S0 p0 p1)), .val (.int (23 : Int32)), .unset, .unset] [(.int (-24 : Int32)), (.int (v_f p0 p1))]) (fun _ k => XT.ixor X0.here hx rfl (hb hby at_80) rfl k) ?_
      refine Go.st (mkF m 82 #[.val (.int p0), .val (.int p1), .val (.int (v_mode p1)), .val (.int (v_f p0 p1)), .val (.int (j0_62_S0 p0 p1)), .val (.int (23 : Int32)), .unset, .unset] [(.int ((v_f p0 p1) &&& (-24 : Int32)))]) (fun _ k => XS.iand X0.here hx rfl (hb hby at_81) rfl k) ?_
      have J82 : Go p e below s (Q_0 p0 p1 h0 n0) 0 0 s₁ (mkF m 90 #[.val (.int p0), .val (.int p1), .val (.int (v_mode p1)), .val (.int (v_f p0 p1)), .val (.int (j0_62_S0 p0 p1)), .val (.int (23 : Int32)), .unset, .unset] [(.int (j0_82_S0 p0 p1))]) := by
        refine Go.st (mkF m 92 #[.val (.int p0), .val (.int p1), .val (.int (v_mode p1)), .val (.int (v_f p0 p1)), .val (.int (j0_62_S0 p0 p1)), .val (.int (23 : Int32)), .val (.int (j0_82_S0 p0 p1)), .unset] []) (fun _ k => XS.istore X0.here hx rfl (hb hby at_90) rfl (l' := #[.val (.int p0), .val (.int p1), .val (.int (v_mode p1)), .val (.int (v_f p0 p1)), .val (.int (j0_62_S0 p0 p1)), .val (.int (23 : Int32)), .val (.int (j0_82_S0 p0 p1)), .unset]) rfl k) ?_
        refine Go.st (mkF m 94 #[.val (.int p0), .val (.int p1), .val (.int (v_mode p1)), .val (.int (v_f p0 p1)), .val (.int (j0_62_S0 p0 p1)), .val (.int (23 : Int32)), .val (.int (j0_82_S0 p0 p1)), .unset] [(.int (j0_62_S0 p0 p1))]) (fun _ k => XS.iload X0.here hx rfl (hb hby at_92) rfl k) ?_
        have J94 : Go p e below s (Q_0 p0 p1 h0 n0) 0 0 s₁ (mkF m 107 #[.val (.int p0), .val (.int p1), .val (.int (v_mode p1)), .val (.int (v_f p0 p1)), .val (.int (j0_62_S0 p0 p1)), .val (.int (23 : Int32)), .val (.int (j0_82_S0 p0 p1)), .unset] [(.int (j0_94_S0 p0 p1))]) := by
          refine Go.st (mkF m 109 #[.val (.int p0), .val (.int p1), .val (.int (v_mode p1)), .val (.int (v_f p0 p1)), .val (.int (j0_62_S0 p0 p1)), .val (.int (23 : Int32)), .val (.int (j0_82_S0 p0 p1)), .val (.int (j0_94_S0 p0 p1))] []) (fun _ k => XS.istore X0.here hx rfl (hb hby at_107) rfl (l' := #[.val (.int p0), .val (.int p1), .val (.int (v_mode p1)), .val (.int (v_f p0 p1)), .val (.int (j0_62_S0 p0 p1)), .val (.int (23 : Int32)), .val (.int (j0_82_S0 p0 p1)), .val (.int (j0_94_S0 p0 p1))]) rfl k) ?_
          refine Go.st (mkF m 110 #[.val (.int p0), .val (.int p1), .val (.int (v_mode p1)), .val (.int (v_f p0 p1)), .val (.int (j0_62_S0 p0 p1)), .val (.int (23 : Int32)), .val (.int (j0_82_S0 p0 p1)), .val (.int (j0_94_S0 p0 p1))] [(.int (v_f p0 p1))]) (fun _ k => XS.iloadN X0.here hx rfl (hb hby at_109) rfl k) ?_
          obtain ⟨_, _, ⟨T5, L5, k5, n5⟩, -, X5, ⟨Lc5, hQ5, l5, y5, z5⟩, st5⟩ := Jvm.LawKit.callS X0 hx (y := (⟨"com/example/brinewire/brinewire/Format", "registeredFlags", "(I)Z"⟩ : MethodName)) hown (mvT hZ (hw _ (List.mem_of_getElem? (i := 0) rfl))) (mvT hZ (hw _ (List.mem_of_getElem? (i := 1) rfl))) (mvT hZ (hw _ (List.mem_of_getElem? (i := 2) rfl))) (mvT hZ (hw _ (List.mem_of_getElem? (i := 3) rfl))) (by decide) (backOf (W := 0) (rm_1 l Z a0 hw [] (v_f p0 p1) h0 n0 Z0) hZ (hw _ (List.mem_of_getElem? (i := 3) rfl)) (hw _ (List.mem_of_getElem? (i := 2) rfl)) (by decide) (by decide)) (g := (mkF m 110 #[.val (.int p0), .val (.int p1), .val (.int (v_mode p1)), .val (.int (v_f p0 p1)), .val (.int (j0_62_S0 p0 p1)), .val (.int (23 : Int32)), .val (.int (j0_82_S0 p0 p1)), .val (.int (j0_94_S0 p0 p1))] [(.int (v_f p0 p1))])) rfl (by rw [hml]; rfl) (argsL := [(.int (v_f p0 p1))]) (rest := []) (lenOf pd_0 rfl) rfl (by show 2 * 0 + _ ≤ _; exact Nat.le_of_eq rfl) (hb hby at_110) (fun _ _ => ⟨rfl, e0, (by decide : 0 + 0 ≤ _), (by decide : 0 + 0 ≤ _)⟩)
          dsimp only [Pt.U, Pt.locs, Pt.cells, Pt.slots] at X5 l5 y5 z5 st5 hQ5
          subst l5 y5 z5
          obtain ⟨rfl, N5q, e5⟩ := hQ5
          have N5 := Fr.app N0 N5q
          refine Go.st (mkF m 113 #[.val (.int p0), .val (.int p1), .val (.int (v_mode p1)), .val (.int (v_f p0 p1)), .val (.int (j0_62_S0 p0 p1)), .val (.int (23 : Int32)), .val (.int (j0_82_S0 p0 p1)), .val (.int (j0_94_S0 p0 p1))] [(.int (f_1 (v_f p0 p1)))]) (fun _ k => st5 _ k) ?_
          refine Go.st (mkF m 115 #[.val (.int p0), .val (.int p1), .val (.int (v_mode p1)), .val (.int (v_f p0 p1)), .val (.int (j0_62_S0 p0 p1)), .val (.int (23 : Int32)), .val (.int (j0_82_S0 p0 p1)), .val (.int (j0_94_S0 p0 p1))] [(.int (j0_94_S0 p0 p1)), (.int (f_1 (v_f p0 p1)))]) (fun _ k => XS.iload X5.here hx rfl (hb hby at_113) rfl k) ?_
          by_cases hc115_6 : (f_1 (v_f p0 p1)) = (j0_94_S0 p0 p1)
          ·
            refine Go.st (mkF m 118 #[.val (.int p0), .val (.int p1), .val (.int (v_mode p1)), .val (.int (v_f p0 p1)), .val (.int (j0_62_S0 p0 p1)), .val (.int (23 : Int32)), .val (.int (j0_82_S0 p0 p1)), .val (.int (j0_94_S0 p0 p1))] []) (fun _ k => XS.icmpNo X5.here hx rfl (hb hby at_115) rfl (teq hc115_6).2 k) ?_
            refine Go.st (mkF m 119 #[.val (.int p0), .val (.int p1), .val (.int (v_mode p1)), .val (.int (v_f p0 p1)), .val (.int (j0_62_S0 p0 p1)), .val (.int (23 : Int32)), .val (.int (j0_82_S0 p0 p1)), .val (.int (j0_94_S0 p0 p1))] [(.int (1 : Int32))]) (fun _ k => XS.iconst X5.here hx rfl (hb hby at_118) k) ?_
            refine Go.st (mkF m 123 #[.val (.int p0), .val (.int p1), .val (.int (v_mode p1)), .val (.int (v_f p0 p1)), .val (.int (j0_62_S0 p0 p1)), .val (.int (23 : Int32)), .val (.int (j0_82_S0 p0 p1)), .val (.int (j0_94_S0 p0 p1))] [(.int (1 : Int32))]) (fun _ k => XS.goto X5.here hx rfl (pc0 := 119) (pc' := 123) rfl (hb hby at_119) (by decide) (by decide) k) ?_
            exact Go.retZ X5 hx Bd.notSynchronized (t := .boolean) (by simp) Bd.returns (hb hby at_123) ⟨congrArg (fun z => some (Value.int z)) (show nar .boolean (1 : Int32) = f_0 p0 p1 from by unfold f_0; rw [if_pos hc115_6]; first | done | rfl), N5, e5⟩ (by decide) (by decide)
          ·
            refine Go.st (mkF m 122 #[.val (.int p0), .val (.int p1), .val (.int (v_mode p1)), .val (.int (v_f p0 p1)), .val (.int (j0_62_S0 p0 p1)), .val (.int (23 : Int32)), .val (.int (j0_82_S0 p0 p1)), .val (.int (j0_94_S0 p0 p1))] []) (fun _ k => XS.icmpYes X5.here hx rfl (pc0 := 115) (pc' := 122) rfl (hb hby at_115) rfl (feq hc115_6).2 (by decide) (by decide) k) ?_
            refine Go.st (mkF m 123 #[.val (.int p0), .val (.int p1), .val (.int (v_mode p1)), .val (.int (v_f p0 p1)), .val (.int (j0_62_S0 p0 p1)), .val (.int (23 : Int32)), .val (.int (j0_82_S0 p0 p1)), .val (.int (j0_94_S0 p0 p1))] [(.int (0 : Int32))]) (fun _ k => XS.iconst X5.here hx rfl (hb hby at_122) k) ?_
            exact Go.retZ X5 hx Bd.notSynchronized (t := .boolean) (by simp) Bd.returns (hb hby at_123) ⟨congrArg (fun z => some (Value.int z)) (show nar .boolean (0 : Int32) = f_0 p0 p1 from by unfold f_0; rw [if_neg hc115_6]; first | done | rfl), N5, e5⟩ (by decide) (by decide)
        by_cases hc94_4 : (j0_62_S0 p0 p1) = (0 : Int32)
        ·
          refine Go.st (mkF m 106 #[.val (.int p0), .val (.int p1), .val (.int (v_mode p1)), .val (.int (v_f p0 p1)), .val (.int (j0_62_S0 p0 p1)), .val (.int (23 : Int32)), .val (.int (j0_82_S0 p0 p1)), .unset] []) (fun _ k => XS.ifYes X0.here hx rfl (pc0 := 94) (pc' := 106) rfl (hb hby at_94) rfl ((if0 _ _).trans (teq hc94_4).1) (by decide) (by decide) k) ?_
          refine Go.st (mkF m 107 #[.val (.int p0), .val (.int p1), .val (.int (v_mode p1)), .val (.int (v_f p0 p1)), .val (.int (j0_62_S0 p0 p1)), .val (.int (23 : Int32)), .val (.int (j0_82_S0 p0 p1)), .unset] [(.int (0 : Int32))]) (fun _ k => XS.iconst X0.here hx rfl (hb hby at_106) k) ?_
          rw [show (j0_94_S0 p0 p1) = (0 : Int32) from by unfold j0_94_S0; rw [if_pos hc94_4]] at J94
          exact J94
        ·
          refine Go.st (mkF m 97 #[.val (.int p0), .val (.int p1), .val (.int (v_mode p1)), .val (.int (v_f p0 p1)), .val (.int (j0_62_S0 p0 p1)), .val (.int (23 : Int32)), .val (.int (j0_82_S0 p0 p1)), .unset] []) (fun _ k => XS.ifNo X0.here hx rfl (hb hby at_94) rfl ((if0 _ _).trans (feq hc94_4).1) k) ?_
          refine Go.st (mkF m 99 #[.val (.int p0), .val (.int p1), .val (.int (v_mode p1)), .val (.int (v_f p0 p1)), .val (.int (j0_62_S0 p0 p1)), .val (.int (23 : Int32)), .val (.int (j0_82_S0 p0 p1)), .unset] [(.int (j0_82_S0 p0 p1))]) (fun _ k => XS.iload X0.here hx rfl (hb hby at_97) rfl k) ?_
          by_cases hc99_7 : (j0_82_S0 p0 p1) = (0 : Int32)
          ·
            refine Go.st (mkF m 106 #[.val (.int p0), .val (.int p1), .val (.int (v_mode p1)), .val (.int (v_f p0 p1)), .val (.int (j0_62_S0 p0 p1)), .val (.int (23 : Int32)), .val (.int (j0_82_S0 p0 p1)), .unset] []) (fun _ k => XS.ifYes X0.here hx rfl (pc0 := 99) (pc' := 106) rfl (hb hby at_99) rfl ((if0 _ _).trans (teq hc99_7).1) (by decide) (by decide) k) ?_
            refine Go.st (mkF m 107 #[.val (.int p0), .val (.int p1), .val (.int (v_mode p1)), .val (.int (v_f p0 p1)), .val (.int (j0_62_S0 p0 p1)), .val (.int (23 : Int32)), .val (.int (j0_82_S0 p0 p1)), .unset] [(.int (0 : Int32))]) (fun _ k => XS.iconst X0.here hx rfl (hb hby at_106) k) ?_
            rw [show (j0_94_S0 p0 p1) = (0 : Int32) from by unfold j0_94_S0; rw [if_neg hc94_4, if_pos hc99_7]] at J94
            exact J94
          ·
            refine Go.st (mkF m 102 #[.val (.int p0), .val (.int p1), .val (.int (v_mode p1)), .val (.int (v_f p0 p1)), .val (.int (j0_62_S0 p0 p1)), .val (.int (23 : Int32)), .val (.int (j0_82_S0 p0 p1)), .unset] []) (fun _ k => XS.ifNo X0.here hx rfl (hb hby at_99) rfl ((if0 _ _).trans (feq hc99_7).1) k) ?_
            refine Go.st (mkF m 103 #[.val (.int p0), .val (.int p1), .val (.int (v_mode p1)), .val (.int (v_f p0 p1)), .val (.int (j0_62_S0 p0 p1)), .val (.int (23 : Int32)), .val (.int (j0_82_S0 p0 p1)), .unset] [(.int (1 : Int32))]) (fun _ k => XS.iconst X0.here hx rfl (hb hby at_102) k) ?_
            refine Go.st (mkF m 107 #[.val (.int p0), .val (.int p1), .val (.int (v_mode p1)), .val (.int (v_f p0 p1)), .val (.int (j0_62_S0 p0 p1)), .val (.int (23 : Int32)), .val (.int (j0_82_S0 p0 p1)), .unset] [(.int (1 : Int32))]) (fun _ k => XS.goto X0.here hx rfl (pc0 := 103) (pc' := 107) rfl (hb hby at_103) (by decide) (by decide) k) ?_
            rw [show (j0_94_S0 p0 p1) = (1 : Int32) from by unfold j0_94_S0; rw [if_neg hc94_4, if_neg hc99_7]] at J94
            exact J94
      by_cases hc82_3 : ((v_f p0 p1) &&& (-24 : Int32)) = (0 : Int32)
      ·
        refine Go.st (mkF m 85 #[.val (.int p0), .val (.int p1), .val (.int (v_mode p1)), .val (.int (v_f p0 p1)), .val (.int (j0_62_S0 p0 p1)), .val (.int (23 : Int32)), .unset, .unset] []) (fun _ k => XS.ifNo X0.here hx rfl (hb hby at_82) rfl ((if0 _ _).trans (teq hc82_3).2) k) ?_
        refine Go.st (mkF m 86 #[.val (.int p0), .val (.int p1), .val (.int (v_mode p1)), .val (.int (v_f p0 p1)), .val (.int (j0_62_S0 p0 p1)), .val (.int (23 : Int32)), .unset, .unset] [(.int (1 : Int32))]) (fun _ k => XS.iconst X0.here hx rfl (hb hby at_85) k) ?_
        refine Go.st (mkF m 90 #[.val (.int p0), .val (.int p1), .val (.int (v_mode p1)), .val (.int (v_f p0 p1)), .val (.int (j0_62_S0 p0 p1)), .val (.int (23 : Int32)), .unset, .unset] [(.int (1 : Int32))]) (fun _ k => XS.goto X0.here hx rfl (pc0 := 86) (pc' := 90) rfl (hb hby at_86) (by decide) (by decide) k) ?_
        rw [show (j0_82_S0 p0 p1) = (1 : Int32) from by unfold j0_82_S0; rw [if_pos hc82_3]] at J82
        exact J82
      ·
        refine Go.st (mkF m 89 #[.val (.int p0), .val (.int p1), .val (.int (v_mode p1)), .val (.int (v_f p0 p1)), .val (.int (j0_62_S0 p0 p1)), .val (.int (23 : Int32)), .unset, .unset] []) (fun _ k => XS.ifYes X0.here hx rfl (pc0 := 82) (pc' := 89) rfl (hb hby at_82) rfl ((if0 _ _).trans (feq hc82_3).2) (by decide) (by decide) k) ?_
        refine Go.st (mkF m 90 #[.val (.int p0), .val (.int p1), .val (.int (v_mode p1)), .val (.int (v_f p0 p1)), .val (.int (j0_62_S0 p0 p1)), .val (.int (23 : Int32)), .unset, .unset] [(.int (0 : Int32))]) (fun _ k => XS.iconst X0.here hx rfl (hb hby at_89) k) ?_
        rw [show (j0_82_S0 p0 p1) = (0 : Int32) from by unfold j0_82_S0; rw [if_neg hc82_3]] at J82
        exact J82
    by_cases hc62_2 : ((v_f p0 p1) &&& ((v_f p0 p1) - (1 : Int32))) = (0 : Int32)
    ·
      refine Go.st (mkF m 65 #[.val (.int p0), .val (.int p1), .val (.int (v_mode p1)), .val (.int (v_f p0 p1)), .unset, .unset, .unset, .unset] []) (fun _ k => XS.ifNo X0.here hx rfl (hb hby at_62) rfl ((if0 _ _).trans (teq hc62_2).2) k) ?_
      refine Go.st (mkF m 66 #[.val (.int p0), .val (.int p1), .val (.int (v_mode p1)), .val (.int (v_f p0 p1)), .unset, .unset, .unset, .unset] [(.int (1 : Int32))]) (fun _ k => XS.iconst X0.here hx rfl (hb hby at_65) k) ?_
      refine Go.st (mkF m 70 #[.val (.int p0), .val (.int p1), .val (.int (v_mode p1)), .val (.int (v_f p0 p1)), .unset, .unset, .unset, .unset] [(.int (1 : Int32))]) (fun _ k => XS.goto X0.here hx rfl (pc0 := 66) (pc' := 70) rfl (hb hby at_66) (by decide) (by decide) k) ?_
      rw [show (j0_62_S0 p0 p1) = (1 : Int32) from by unfold j0_62_S0; rw [if_pos hc62_2]] at J62
      exact J62
    ·
      refine Go.st (mkF m 69 #[.val (.int p0), .val (.int p1), .val (.int (v_mode p1)), .val (.int (v_f p0 p1)), .unset, .unset, .unset, .unset] []) (fun _ k => XS.ifYes X0.here hx rfl (pc0 := 62) (pc' := 69) rfl (hb hby at_62) rfl ((if0 _ _).trans (feq hc62_2).2) (by decide) (by decide) k) ?_
      refine Go.st (mkF m 70 #[.val (.int p0), .val (.int p1), .val (.int (v_mode p1)), .val (.int (v_f p0 p1)), .unset, .unset, .unset, .unset] [(.int (0 : Int32))]) (fun _ k => XS.iconst X0.here hx rfl (hb hby at_69) k) ?_
      rw [show (j0_62_S0 p0 p1) = (0 : Int32) from by unfold j0_62_S0; rw [if_neg hc62_2]] at J62
      exact J62
  by_cases hc5_1 : (v_mode p1) = (0 : Int32)
  ·
    refine Go.st (mkF m 8 #[.val (.int p0), .val (.int p1), .val (.int (v_mode p1)), .unset, .unset, .unset, .unset, .unset] []) (fun _ k => XS.ifNo X0.here hx rfl (hb hby at_5) rfl ((if0 _ _).trans (teq hc5_1).2) k) ?_
    refine Go.st (mkF m 9 #[.val (.int p0), .val (.int p1), .val (.int (v_mode p1)), .unset, .unset, .unset, .unset, .unset] [(.int p0)]) (fun _ k => XS.iloadN X0.here hx rfl (hb hby at_8) rfl k) ?_
    refine Go.st (mkF m 10 #[.val (.int p0), .val (.int p1), .val (.int (v_mode p1)), .val (.int p0), .unset, .unset, .unset, .unset] []) (fun _ k => XS.istoreN X0.here hx rfl (hb hby at_9) rfl (l' := #[.val (.int p0), .val (.int p1), .val (.int (v_mode p1)), .val (.int p0), .unset, .unset, .unset, .unset]) rfl k) ?_
    refine Go.st (mkF m 57 #[.val (.int p0), .val (.int p1), .val (.int (v_mode p1)), .val (.int p0), .unset, .unset, .unset, .unset] []) (fun _ k => XS.goto X0.here hx rfl (pc0 := 10) (pc' := 57) rfl (hb hby at_10) (by decide) (by decide) k) ?_
    rw [show (v_f p0 p1) = p0 from by unfold v_f; rw [if_pos hc5_1]] at J5
    exact J5
  ·
    refine Go.st (mkF m 13 #[.val (.int p0), .val (.int p1), .val (.int (v_mode p1)), .unset, .unset, .unset, .unset, .unset] []) (fun _ k => XS.ifYes X0.here hx rfl (pc0 := 5) (pc' := 13) rfl (hb hby at_5) rfl ((if0 _ _).trans (feq hc5_1).2) (by decide) (by decide) k) ?_
    refine Go.st (mkF m 14 #[.val (.int p0), .val (.int p1), .val (.int (v_mode p1)), .unset, .unset, .unset, .unset, .unset] [(.int (v_mode p1))]) (fun _ k => XS.iloadN X0.here hx rfl (hb hby at_13) rfl k) ?_
    refine Go.st (mkF m 15 #[.val (.int p0), .val (.int p1), .val (.int (v_mode p1)), .unset, .unset, .unset, .unset, .unset] [(.int (1 : Int32)), (.int (v_mode p1))]) (fun _ k => XS.iconst X0.here hx rfl (hb hby at_14) k) ?_
    by_cases hc15_8 : (v_mode p1) = (1 : Int32)
    ·
      refine Go.st (mkF m 18 #[.val (.int p0), .val (.int p1), .val (.int (v_mode p1)), .unset, .unset, .unset, .unset, .unset] []) (fun _ k => XS.icmpNo X0.here hx rfl (hb hby at_15) rfl (teq hc15_8).2 k) ?_
      refine Go.st (mkF m 19 #[.val (.int p0), .val (.int p1), .val (.int (v_mode p1)), .unset, .unset, .unset, .unset, .unset] [(.int p0)]) (fun _ k => XS.iloadN X0.here hx rfl (hb hby at_18) rfl k) ?_
      refine Go.st (mkF m 21 #[.val (.int p0), .val (.int p1), .val (.int (v_mode p1)), .unset, .unset, .unset, .unset, .unset] [(.int (31 : Int32)), (.int p0)]) (fun _ k => XS.bipush X0.here hx rfl (hb hby at_19) k) ?_
      refine Go.st (mkF m 22 #[.val (.int p0), .val (.int p1), .val (.int (v_mode p1)), .unset, .unset, .unset, .unset, .unset] [(.int (p0 &&& (31 : Int32)))]) (fun _ k => XS.iand X0.here hx rfl (hb hby at_21) rfl k) ?_
      refine Go.st (mkF m 23 #[.val (.int p0), .val (.int p1), .val (.int (v_mode p1)), .val (.int (p0 &&& (31 : Int32))), .unset, .unset, .unset, .unset] []) (fun _ k => XS.istoreN X0.here hx rfl (hb hby at_22) rfl (l' := #[.val (.int p0), .val (.int p1), .val (.int (v_mode p1)), .val (.int (p0 &&& (31 : Int32))), .unset, .unset, .unset, .unset]) rfl k) ?_
      refine Go.st (mkF m 57 #[.val (.int p0), .val (.int p1), .val (.int (v_mode p1)), .val (.int (p0 &&& (31 : Int32))), .unset, .unset, .unset, .unset] []) (fun _ k => XS.goto X0.here hx rfl (pc0 := 23) (pc' := 57) rfl (hb hby at_23) (by decide) (by decide) k) ?_
      rw [show (v_f p0 p1) = (p0 &&& (31 : Int32)) from by unfold v_f; rw [if_neg hc5_1, if_pos hc15_8]] at J5
      exact J5
    ·
      refine Go.st (mkF m 26 #[.val (.int p0), .val (.int p1), .val (.int (v_mode p1)), .unset, .unset, .unset, .unset, .unset] []) (fun _ k => XS.icmpYes X0.here hx rfl (pc0 := 15) (pc' := 26) rfl (hb hby at_15) rfl (feq hc15_8).2 (by decide) (by decide) k) ?_
      refine Go.st (mkF m 27 #[.val (.int p0), .val (.int p1), .val (.int (v_mode p1)), .unset, .unset, .unset, .unset, .unset] [(.int (v_mode p1))]) (fun _ k => XS.iloadN X0.here hx rfl (hb hby at_26) rfl k) ?_
      refine Go.st (mkF m 28 #[.val (.int p0), .val (.int p1), .val (.int (v_mode p1)), .unset, .unset, .unset, .unset, .unset] [(.int (2 : Int32)), (.int (v_mode p1))]) (fun _ k => XS.iconst X0.here hx rfl (hb hby at_27) k) ?_
      by_cases hc28_9 : (v_mode p1) = (2 : Int32)
      ·
        refine Go.st (mkF m 31 #[.val (.int p0), .val (.int p1), .val (.int (v_mode p1)), .unset, .unset, .unset, .unset, .unset] []) (fun _ k => XS.icmpNo X0.here hx rfl (hb hby at_28) rfl (teq hc28_9).2 k) ?_
        refine Go.st (mkF m 32 #[.val (.int p0), .val (.int p1), .val (.int (v_mode p1)), .unset, .unset, .unset, .unset, .unset] [(.int (1 : Int32))]) (fun _ k => XS.iconst X0.here hx rfl (hb hby at_31) k) ?_
        refine Go.st (mkF m 33 #[.val (.int p0), .val (.int p1), .val (.int (v_mode p1)), .unset, .unset, .unset, .unset, .unset] [(.int p0), (.int (1 : Int32))]) (fun _ k => XS.iloadN X0.here hx rfl (hb hby at_32) rfl k) ?_
        refine Go.st (mkF m 35 #[.val (.int p0), .val (.int p1), .val (.int (v_mode p1)), .unset, .unset, .unset, .unset, .unset] [(.int (31 : Int32)), (.int p0), (.int (1 : Int32))]) (fun _ k => XS.bipush X0.here hx rfl (hb hby at_33) k) ?_
        refine Go.st (mkF m 36 #[.val (.int p0), .val (.int p1), .val (.int (v_mode p1)), .unset, .unset, .unset, .unset, .unset] [(.int (p0 &&& (31 : Int32))), (.int (1 : Int32))]) (fun _ k => XS.iand X0.here hx rfl (hb hby at_35) rfl k) ?_
        refine Go.st (mkF m 37 #[.val (.int p0), .val (.int p1), .val (.int (v_mode p1)), .unset, .unset, .unset, .unset, .unset] [(.int ((1 : Int32) <<< ((p0 &&& (31 : Int32)) &&& 31)))]) (fun _ k => XT.ishl X0.here hx rfl (hb hby at_36) rfl k) ?_
        refine Go.st (mkF m 38 #[.val (.int p0), .val (.int p1), .val (.int (v_mode p1)), .val (.int ((1 : Int32) <<< ((p0 &&& (31 : Int32)) &&& 31))), .unset, .unset, .unset, .unset] []) (fun _ k => XS.istoreN X0.here hx rfl (hb hby at_37) rfl (l' := #[.val (.int p0), .val (.int p1), .val (.int (v_mode p1)), .val (.int ((1 : Int32) <<< ((p0 &&& (31 : Int32)) &&& 31))), .unset, .unset, .unset, .unset]) rfl k) ?_
        refine Go.st (mkF m 57 #[.val (.int p0), .val (.int p1), .val (.int (v_mode p1)), .val (.int ((1 : Int32) <<< ((p0 &&& (31 : Int32)) &&& 31))), .unset, .unset, .unset, .unset] []) (fun _ k => XS.goto X0.here hx rfl (pc0 := 38) (pc' := 57) rfl (hb hby at_38) (by decide) (by decide) k) ?_
        rw [show (v_f p0 p1) = ((1 : Int32) <<< ((p0 &&& (31 : Int32)) &&& 31)) from by unfold v_f; rw [if_neg hc5_1, if_neg hc15_8, if_pos hc28_9]] at J5
        exact J5
      ·
        refine Go.st (mkF m 41 #[.val (.int p0), .val (.int p1), .val (.int (v_mode p1)), .unset, .unset, .unset, .unset, .unset] []) (fun _ k => XS.icmpYes X0.here hx rfl (pc0 := 28) (pc' := 41) rfl (hb hby at_28) rfl (feq hc28_9).2 (by decide) (by decide) k) ?_
        refine Go.st (mkF m 42 #[.val (.int p0), .val (.int p1), .val (.int (v_mode p1)), .unset, .unset, .unset, .unset, .unset] [(.int (1 : Int32))]) (fun _ k => XS.iconst X0.here hx rfl (hb hby at_41) k) ?_
        refine Go.st (mkF m 43 #[.val (.int p0), .val (.int p1), .val (.int (v_mode p1)), .unset, .unset, .unset, .unset, .unset] [(.int p0), (.int (1 : Int32))]) (fun _ k => XS.iloadN X0.here hx rfl (hb hby at_42) rfl k) ?_
        refine Go.st (mkF m 45 #[.val (.int p0), .val (.int p1), .val (.int (v_mode p1)), .unset, .unset, .unset, .unset, .unset] [(.int (31 : Int32)), (.int p0), (.int (1 : Int32))]) (fun _ k => XS.bipush X0.here hx rfl (hb hby at_43) k) ?_
        refine Go.st (mkF m 46 #[.val (.int p0), .val (.int p1), .val (.int (v_mode p1)), .unset, .unset, .unset, .unset, .unset] [(.int (p0 &&& (31 : Int32))), (.int (1 : Int32))]) (fun _ k => XS.iand X0.here hx rfl (hb hby at_45) rfl k) ?_
        refine Go.st (mkF m 47 #[.val (.int p0), .val (.int p1), .val (.int (v_mode p1)), .unset, .unset, .unset, .unset, .unset] [(.int ((1 : Int32) <<< ((p0 &&& (31 : Int32)) &&& 31)))]) (fun _ k => XT.ishl X0.here hx rfl (hb hby at_46) rfl k) ?_
        refine Go.st (mkF m 48 #[.val (.int p0), .val (.int p1), .val (.int (v_mode p1)), .unset, .unset, .unset, .unset, .unset] [(.int (1 : Int32)), (.int ((1 : Int32) <<< ((p0 &&& (31 : Int32)) &&& 31)))]) (fun _ k => XS.iconst X0.here hx rfl (hb hby at_47) k) ?_
        refine Go.st (mkF m 49 #[.val (.int p0), .val (.int p1), .val (.int (v_mode p1)), .unset, .unset, .unset, .unset, .unset] [(.int p0), (.int (1 : Int32)), (.int ((1 : Int32) <<< ((p0 &&& (31 : Int32)) &&& 31)))]) (fun _ k => XS.iloadN X0.here hx rfl (hb hby at_48) rfl k) ?_
        refine Go.st (mkF m 50 #[.val (.int p0), .val (.int p1), .val (.int (v_mode p1)), .unset, .unset, .unset, .unset, .unset] [(.int (5 : Int32)), (.int p0), (.int (1 : Int32)), (.int ((1 : Int32) <<< ((p0 &&& (31 : Int32)) &&& 31)))]) (fun _ k => XS.iconst X0.here hx rfl (hb hby at_49) k) ?_
        refine Go.st (mkF m 51 #[.val (.int p0), .val (.int p1), .val (.int (v_mode p1)), .unset, .unset, .unset, .unset, .unset] [(.int (ushr p0 (5 : Int32))), (.int (1 : Int32)), (.int ((1 : Int32) <<< ((p0 &&& (31 : Int32)) &&& 31)))]) (fun _ k => XT.iushr X0.here hx rfl (hb hby at_50) rfl k) ?_
        refine Go.st (mkF m 53 #[.val (.int p0), .val (.int p1), .val (.int (v_mode p1)), .unset, .unset, .unset, .unset, .unset] [(.int (31 : Int32)), (.int (ushr p0 (5 : Int32))), (.int (1 : Int32)), (.int ((1 : Int32) <<< ((p0 &&& (31 : Int32)) &&& 31)))]) (fun _ k => XS.bipush X0.here hx rfl (hb hby at_51) k) ?_
        refine Go.st (mkF m 54 #[.val (.int p0), .val (.int p1), .val (.int (v_mode p1)), .unset, .unset, .unset, .unset, .unset] [(.int ((ushr p0 (5 : Int32)) &&& (31 : Int32))), (.int (1 : Int32)), (.int ((1 : Int32) <<< ((p0 &&& (31 : Int32)) &&& 31)))]) (fun _ k => XS.iand X0.here hx rfl (hb hby at_53) rfl k) ?_
        refine Go.st (mkF m 55 #[.val (.int p0), .val (.int p1), .val (.int (v_mode p1)), .unset, .unset, .unset, .unset, .unset] [(.int ((1 : Int32) <<< (((ushr p0 (5 : Int32)) &&& (31 : Int32)) &&& 31))), (.int ((1 : Int32) <<< ((p0 &&& (31 : Int32)) &&& 31)))]) (fun _ k => XT.ishl X0.here hx rfl (hb hby at_54) rfl k) ?_
        refine Go.st (mkF m 56 #[.val (.int p0), .val (.int p1), .val (.int (v_mode p1)), .unset, .unset, .unset, .unset, .unset] [(.int (((1 : Int32) <<< ((p0 &&& (31 : Int32)) &&& 31)) ^^^ ((1 : Int32) <<< (((ushr p0 (5 : Int32)) &&& (31 : Int32)) &&& 31))))]) (fun _ k => XT.ixor X0.here hx rfl (hb hby at_55) rfl k) ?_
        refine Go.st (mkF m 57 #[.val (.int p0), .val (.int p1), .val (.int (v_mode p1)), .val (.int (((1 : Int32) <<< ((p0 &&& (31 : Int32)) &&& 31)) ^^^ ((1 : Int32) <<< (((ushr p0 (5 : Int32)) &&& (31 : Int32)) &&& 31)))), .unset, .unset, .unset, .unset] []) (fun _ k => XS.istoreN X0.here hx rfl (hb hby at_56) rfl (l' := #[.val (.int p0), .val (.int p1), .val (.int (v_mode p1)), .val (.int (((1 : Int32) <<< ((p0 &&& (31 : Int32)) &&& 31)) ^^^ ((1 : Int32) <<< (((ushr p0 (5 : Int32)) &&& (31 : Int32)) &&& 31)))), .unset, .unset, .unset, .unset]) rfl k) ?_
        rw [show (v_f p0 p1) = (((1 : Int32) <<< ((p0 &&& (31 : Int32)) &&& 31)) ^^^ ((1 : Int32) <<< (((ushr p0 (5 : Int32)) &&& (31 : Int32)) &&& 31))) from by unfold v_f; rw [if_neg hc5_1, if_neg hc15_8, if_neg hc28_9]] at J5
        exact J5
theorem own_split (b : BitVec 32) (h : b &&& 0xffffffe8#32 = 0#32) : b = b &&& 31#32 := by
  have e : b = b &&& (0xffffffe8#32 ||| 31#32) := by
    have : 0xffffffe8#32 ||| 31#32 = BitVec.allOnes 32 := by decide
    rw [this, BitVec.and_allOnes]
  rw [BitVec.and_or_distrib_left, h, BitVec.zero_or] at e
  exact e
theorem own_low (f : Int32) (h : f &&& (-24 : Int32) = 0) : f = f &&& 31 := by
  apply Int32.toBitVec_inj.mp
  exact own_split f.toBitVec (congrArg Int32.toBitVec h)
def own_exp (f : Int32) : Int32 := if (if f &&& (f - 1) = 0 then (1 : Int32) else 0) = 0 then 0 else (if (if f &&& (-24 : Int32) = 0 then (1 : Int32) else 0) = 0 then 0 else 1)
theorem own_all : ∀ k : Fin 32, f_1 (Int32.ofNat k.val) = own_exp (Int32.ofNat k.val) := by decide +kernel
theorem own_eq (f : Int32) : f_1 f = own_exp f := by
  by_cases h : f &&& (-24 : Int32) = 0
  · have q := own_low f h
    have e : (f &&& 31).toInt = f.toInt % 2 ^ 5 := Jvm.Kit.i32_mask _ 31 (k := 5) (by decide) (by decide)
    rw [← q] at e
    obtain ⟨k, rfl⟩ := own_small 32 f (by omega) (by omega) (by decide)
    exact own_all k
  · have hn : ∀ d : Int32, d &&& (-24 : Int32) = 0 → ¬ f = d := fun d hd q => h (q ▸ hd)
    unfold f_1 own_exp
    rw [if_neg (hn 0 (by decide)), if_neg (hn 1 (by decide)), if_neg (hn 2 (by decide)), if_neg (hn 4 (by decide)), if_neg (hn 16 (by decide)), if_neg h]
    by_cases a : f &&& (f - 1) = 0
    · rw [if_pos a]; decide
    · rw [if_neg a]; decide
theorem own_law (x y : Int32) : f_0 x y = 1 := by
  unfold f_0
  rw [if_pos (show f_1 (v_f x y) = j0_94_S0 x y from own_eq (v_f x y))]
set_option maxRecDepth 65536 in
set_option maxHeartbeats 40000000 in
theorem comes_1 {Post : Tables → Env → Array Value → State → Outcome → State → Prop} (hpost : ∀ tb e args s v u, (limb_1_1.after args s (.returned v) u = true ∧ limb_1_2.after args s (.returned v) u = true ∧ True) → FrameEnd s (.returned v) u (Jvm.fieldLocs frame_1_writes args s ++ Jvm.arrayLocs frame_1_arrays args s ++ Jvm.staticLocs frame_1_statics s) 0 0 → Post tb e args s (.returned v) u) :
    ArmFor flags0 classFile x code maxLocals ret World_1 tables_1 room_1 Calls_1 rest_1 Pre_1 Post := by
  intro l hfl _ _ p e ha hc hk s m args below hf hA hF happ hP
  obtain ⟨hcalls, hrest, hpre⟩ := hP
  obtain ⟨-, -, -, hnamed, -, -, -, hat⟩ := (Spec.applies_iff hf).mp happ
  obtain ⟨hg, hn⟩ := and_e (Cond.before_iff.mp (show (Jvm.Cond.and given_1 narrow_1).before args s = true from hpre))
  obtain ⟨h1, g0⟩ := and_e hg
  obtain ⟨a0, g1⟩ := and_e g0
  obtain ⟨w0, w1, rfl⟩ : ∃ w0 w1 : Value, args = #[w0, w1] := by
    have hs : args.size = 2 := by simpa [Cond.value, given_1] using h1
    obtain ⟨L⟩ := args
    match L, hs with
    | [w0, w1], _ => exact ⟨w0, w1, rfl⟩
  have hw := fun d (hd : d ∈ tables_1) => atoms_spec (ws := Jvm.Cond.code x code maxLocals ret :: tables_1) hat d (List.mem_cons_of_mem _ hd)
  obtain ⟨i0, e0⟩ := is_v a0
  obtain rfl : w0 = (.int i0) := Option.some.inj e0
  obtain ⟨i1, e1⟩ := is_v g1
  obtain rfl : w1 = (.int i1) := Option.some.inj e1
  obtain ⟨n, o, h1, h2, h3, _, L, rfl, ⟨rfl, N, _⟩, hq⟩ := rm_0 l s _ hw tables_1 i0 i1 s.heap s.heap.size (Nat.le_refl _) p e ha hc hk s m _ below hf ((Spec.applies_iff_loose hf).mp happ).1 ⟨rfl, State.Warmed39.refl s, rfl⟩ trivial
  have ht : f_0 i0 i1 = 1 := own_law i0 i1
  rw [ht] at h3 hq
  refine ⟨n, _, h1, h2, h3, hpost _ _ _ _ _ _ ⟨Cond.after_iff.mpr rfl, Cond.after_iff.mpr (eq_i res_at (Term.int_eval (1)) rfl), trivial⟩ ⟨hq.1, hq.2.1, (hq.2.2.sift fun y hy => Or.inr (N y hy)).mono (by decide) (by decide)⟩⟩
theorem main_1_1 : Claimed_1_1 := comes_1 fun _ _ _ _ _ _ h hF => ⟨h.1, hF⟩
theorem main_1_2 : Claimed_1_2 := comes_1 fun _ _ _ _ _ _ h hF => ⟨h.2.1, hF⟩
end Jvm.Pilot.@@N@@
namespace Jvm.Pilot.@@N@@
open Jvm Jvm.ClassFile Sem Op Lib Jvm.Free Jvm.Stand Jvm.Pilot.@@N@@.Jvm.D
/-! MADE BY PROGRAM (witnessworld.py) out of the Statement's table words and the real class files: 9 classes; the members and pool entries that the words name. The judged class is class 1, her method 1. -/
namespace start1
open Jvm.ClassFile
def u (s : String) : CpInfo := .utf8 (stringToUtf16 s)
/-- a pool by its gaps: so many unusable entries, then the entry; so many at the end -/
def gap : Nat → List CpInfo → List CpInfo
  | 0, r => r
  | n + 1, r => .unusable :: gap n r
def poolList (es : List (Nat × CpInfo)) (last : Nat) : List CpInfo := es.foldr (fun e r => gap e.1 (e.2 :: r)) (gap last [])
def pool (es : List (Nat × CpInfo)) (last : Nat) : Array CpInfo := ⟨poolList es last⟩
def fileOf (pool : Array CpInfo) (this : Nat) (attrs : Array Attribute := #[]) (ms : Array MethodInfo := #[]) (fl : Nat := 33) (sup : Nat := 0) (ifs : Array Nat := #[]) (fds : Array FieldInfo := #[]) : ClassFile where
  minorVersion := 0
  majorVersion := 65
  constantPool := pool
  accessFlags := fl
  thisClass := this
  superClass := sup
  interfaces := ifs
  fields := fds
  methods := ms
  attributes := attrs
def plain (name : String) (sup : Option ClassId) : Class where
  name := name
  kind := .ordinary
  loader := none
  accessFlags := 33
  super := sup
  interfaces := #[]
  cf := none
  fields := #[]
  methods := #[]
  instanceTypes := #[]
  staticTypes := #[]
  resolved := #[]
  callSites := []
  init := .initialized
  statics := none
  mirror := none

def pool0 : Array CpInfo := pool [(5, u "<init>"), (0, u "()V"), (1, .class_ 10), (1, u "java/lang/Object")] 113

def k0m0 : Method := { name := "<init>", desc := "()V", sig := { parameters := [], returnType := none }, accessFlags := 1, code := none }
/-- java/lang/Object -/
def k0 : Class := { plain "java/lang/Object" none with
  accessFlags := 33
  interfaces := #[]
  cf := some (fileOf pool0 8 #[] #[{ accessFlags := 1, nameIndex := 5, descriptorIndex := 6, attributes := #[] }] 33 0 #[] #[])
  fields := #[]
  methods := #[k0m0]
  instanceTypes := #[]
  staticTypes := #[]
  resolved := Array.replicate 124 none
  statics := none }

def pool1 : Array CpInfo := pool [(2, .class_ 4), (1, u "java/lang/Object"), (0, u "<init>"), (0, u "()V"), (0, .methodref 8 9), (0, .class_ 10), (0, .nameAndType 11 12), (0, u "com/example/brinewire/brinewire/Format"), (0, u "registeredFlags"), (0, u "(I)Z"), (0, .class_ 14), (0, u "com/example/brinewire/brinewire/FormatRegisteredFlagsPinLaw"), (2, u "law"), (0, u "(II)Z")] 3

def k1m0 : Method := { name := "<init>", desc := "()V", sig := { parameters := [], returnType := none }, accessFlags := 2, code := none }
def k1c1 : Code := { maxStack := 4, maxLocals := 8, code := code, exceptionTable := #[], attributes := #[] }
def k1m1 : Method := { name := "law", desc := "(II)Z", sig := { parameters := [.int, .int], returnType := some .boolean }, accessFlags := 9, code := some k1c1 }
/-- com/example/brinewire/brinewire/FormatRegisteredFlagsPinLaw -/
def k1 : Class := { plain "com/example/brinewire/brinewire/FormatRegisteredFlagsPinLaw" (some 0) with
  accessFlags := 49
  interfaces := #[]
  cf := some (fileOf pool1 13 #[] #[{ accessFlags := 2, nameIndex := 5, descriptorIndex := 6, attributes := #[] }, { accessFlags := 9, nameIndex := 17, descriptorIndex := 18, attributes := #[] }] 49 2 #[] #[])
  fields := #[]
  methods := #[k1m0, k1m1]
  instanceTypes := #[]
  staticTypes := #[]
  resolved := Array.replicate 22 none
  statics := none }

def pool2 : Array CpInfo := pool [(2, .class_ 4), (1, u "java/lang/Object"), (0, u "<init>"), (0, u "()V"), (0, .class_ 8), (0, u "com/example/brinewire/brinewire/Format"), (0, u "MAGIC_B"), (0, u "I"), (2, u "MAGIC_W"), (1, u "VERSION"), (1, u "TAG_NULL"), (1, u "TAG_FALSE"), (0, u "TAG_TRUE"), (1, u "TAG_INTEGER"), (1, u "TAG_LONG"), (1, u "TAG_SHORT"), (1, u "TAG_BYTE"), (1, u "TAG_CHARACTER"), (1, u "TAG_FLOAT"), (1, u "TAG_DOUBLE"), (1, u "TAG_STRING"), (1, u "TAG_BACK_REFERENCE"), (1, u "TAG_OBJECT"), (1, u "TAG_ARRAY"), (1, u "TAG_ENUM"), (1, u "TAG_EXIT"), (1, u "TAG_LIST"), (1, u "TAG_SET"), (1, u "TAG_MAP"), (1, u "END_MARK"), (1, u "CLASS_NONE"), (0, u "CLASS_NEW"), (0, u "CLASS_FIRST_INDEX"), (0, u "FLAGS_PLAIN"), (0, u "FLAGS_RECORD"), (0, u "FLAGS_ENUM"), (0, u "FLAGS_HOOKS"), (0, u "FLAGS_BUILT_IN"), (0, u "FLAGS_CODEC"), (0, u "TYPE_REFERENCE"), (1, u "COMPONENT_ARRAY"), (1, u "MAX_ARRAY_DIMENSIONS"), (3, u "registeredFlags"), (0, u "(I)Z")] 3

def k2m0 : Method := { name := "<init>", desc := "()V", sig := { parameters := [], returnType := none }, accessFlags := 2, code := none }
def k2c1 : Code := { maxStack := 2, maxLocals := 1, code := prog_18_method_2_code, exceptionTable := #[], attributes := #[] }
def k2m1 : Method := { name := "registeredFlags", desc := "(I)Z", sig := { parameters := [.int], returnType := some .boolean }, accessFlags := 8, code := some k2c1 }
/-- com/example/brinewire/brinewire/Format -/
def k2 : Class := { plain "com/example/brinewire/brinewire/Format" (some 0) with
  accessFlags := 48
  interfaces := #[]
  cf := some (fileOf pool2 7 #[] #[{ accessFlags := 2, nameIndex := 5, descriptorIndex := 6, attributes := #[] }, { accessFlags := 8, nameIndex := 73, descriptorIndex := 74, attributes := #[] }] 48 2 #[] #[{ accessFlags := 24, nameIndex := 9, descriptorIndex := 10, attributes := #[] }, { accessFlags := 24, nameIndex := 13, descriptorIndex := 10, attributes := #[] }, { accessFlags := 24, nameIndex := 15, descriptorIndex := 10, attributes := #[] }, { accessFlags := 24, nameIndex := 17, descriptorIndex := 10, attributes := #[] }, { accessFlags := 24, nameIndex := 19, descriptorIndex := 10, attributes := #[] }, { accessFlags := 24, nameIndex := 20, descriptorIndex := 10, attributes := #[] }, { accessFlags := 24, nameIndex := 22, descriptorIndex := 10, attributes := #[] }, { accessFlags := 24, nameIndex := 24, descriptorIndex := 10, attributes := #[] }, { accessFlags := 24, nameIndex := 26, descriptorIndex := 10, attributes := #[] }, { accessFlags := 24, nameIndex := 28, descriptorIndex := 10, attributes := #[] }, { accessFlags := 24, nameIndex := 30, descriptorIndex := 10, attributes := #[] }, { accessFlags := 24, nameIndex := 32, descriptorIndex := 10, attributes := #[] }, { accessFlags := 24, nameIndex := 34, descriptorIndex := 10, attributes := #[] }, { accessFlags := 24, nameIndex := 36, descriptorIndex := 10, attributes := #[] }, { accessFlags := 24, nameIndex := 38, descriptorIndex := 10, attributes := #[] }, { accessFlags := 24, nameIndex := 40, descriptorIndex := 10, attributes := #[] }, { accessFlags := 24, nameIndex := 42, descriptorIndex := 10, attributes := #[] }, { accessFlags := 24, nameIndex := 44, descriptorIndex := 10, attributes := #[] }, { accessFlags := 24, nameIndex := 46, descriptorIndex := 10, attributes := #[] }, { accessFlags := 24, nameIndex := 48, descriptorIndex := 10, attributes := #[] }, { accessFlags := 24, nameIndex := 50, descriptorIndex := 10, attributes := #[] }, { accessFlags := 24, nameIndex := 52, descriptorIndex := 10, attributes := #[] }, { accessFlags := 24, nameIndex := 54, descriptorIndex := 10, attributes := #[] }, { accessFlags := 24, nameIndex := 56, descriptorIndex := 10, attributes := #[] }, { accessFlags := 24, nameIndex := 57, descriptorIndex := 10, attributes := #[] }, { accessFlags := 24, nameIndex := 58, descriptorIndex := 10, attributes := #[] }, { accessFlags := 24, nameIndex := 59, descriptorIndex := 10, attributes := #[] }, { accessFlags := 24, nameIndex := 60, descriptorIndex := 10, attributes := #[] }, { accessFlags := 24, nameIndex := 61, descriptorIndex := 10, attributes := #[] }, { accessFlags := 24, nameIndex := 62, descriptorIndex := 10, attributes := #[] }, { accessFlags := 24, nameIndex := 63, descriptorIndex := 10, attributes := #[] }, { accessFlags := 24, nameIndex := 64, descriptorIndex := 10, attributes := #[] }, { accessFlags := 24, nameIndex := 65, descriptorIndex := 10, attributes := #[] }, { accessFlags := 24, nameIndex := 67, descriptorIndex := 10, attributes := #[] }, { accessFlags := 24, nameIndex := 69, descriptorIndex := 10, attributes := #[] }])
  fields := #[{ name := "MAGIC_B", type := .int, accessFlags := 24, slot := 0, constantValue := 0 }, { name := "MAGIC_W", type := .int, accessFlags := 24, slot := 1, constantValue := 0 }, { name := "VERSION", type := .int, accessFlags := 24, slot := 2, constantValue := 0 }, { name := "TAG_NULL", type := .int, accessFlags := 24, slot := 3, constantValue := 0 }, { name := "TAG_FALSE", type := .int, accessFlags := 24, slot := 4, constantValue := 0 }, { name := "TAG_TRUE", type := .int, accessFlags := 24, slot := 5, constantValue := 0 }, { name := "TAG_INTEGER", type := .int, accessFlags := 24, slot := 6, constantValue := 0 }, { name := "TAG_LONG", type := .int, accessFlags := 24, slot := 7, constantValue := 0 }, { name := "TAG_SHORT", type := .int, accessFlags := 24, slot := 8, constantValue := 0 }, { name := "TAG_BYTE", type := .int, accessFlags := 24, slot := 9, constantValue := 0 }, { name := "TAG_CHARACTER", type := .int, accessFlags := 24, slot := 10, constantValue := 0 }, { name := "TAG_FLOAT", type := .int, accessFlags := 24, slot := 11, constantValue := 0 }, { name := "TAG_DOUBLE", type := .int, accessFlags := 24, slot := 12, constantValue := 0 }, { name := "TAG_STRING", type := .int, accessFlags := 24, slot := 13, constantValue := 0 }, { name := "TAG_BACK_REFERENCE", type := .int, accessFlags := 24, slot := 14, constantValue := 0 }, { name := "TAG_OBJECT", type := .int, accessFlags := 24, slot := 15, constantValue := 0 }, { name := "TAG_ARRAY", type := .int, accessFlags := 24, slot := 16, constantValue := 0 }, { name := "TAG_ENUM", type := .int, accessFlags := 24, slot := 17, constantValue := 0 }, { name := "TAG_EXIT", type := .int, accessFlags := 24, slot := 18, constantValue := 0 }, { name := "TAG_LIST", type := .int, accessFlags := 24, slot := 19, constantValue := 0 }, { name := "TAG_SET", type := .int, accessFlags := 24, slot := 20, constantValue := 0 }, { name := "TAG_MAP", type := .int, accessFlags := 24, slot := 21, constantValue := 0 }, { name := "END_MARK", type := .int, accessFlags := 24, slot := 22, constantValue := 0 }, { name := "CLASS_NONE", type := .int, accessFlags := 24, slot := 23, constantValue := 0 }, { name := "CLASS_NEW", type := .int, accessFlags := 24, slot := 24, constantValue := 0 }, { name := "CLASS_FIRST_INDEX", type := .int, accessFlags := 24, slot := 25, constantValue := 0 }, { name := "FLAGS_PLAIN", type := .int, accessFlags := 24, slot := 26, constantValue := 0 }, { name := "FLAGS_RECORD", type := .int, accessFlags := 24, slot := 27, constantValue := 0 }, { name := "FLAGS_ENUM", type := .int, accessFlags := 24, slot := 28, constantValue := 0 }, { name := "FLAGS_HOOKS", type := .int, accessFlags := 24, slot := 29, constantValue := 0 }, { name := "FLAGS_BUILT_IN", type := .int, accessFlags := 24, slot := 30, constantValue := 0 }, { name := "FLAGS_CODEC", type := .int, accessFlags := 24, slot := 31, constantValue := 0 }, { name := "TYPE_REFERENCE", type := .int, accessFlags := 24, slot := 32, constantValue := 0 }, { name := "COMPONENT_ARRAY", type := .int, accessFlags := 24, slot := 33, constantValue := 0 }, { name := "MAX_ARRAY_DIMENSIONS", type := .int, accessFlags := 24, slot := 34, constantValue := 0 }]
  methods := #[k2m0, k2m1]
  instanceTypes := #[]
  staticTypes := #[.int, .int, .int, .int, .int, .int, .int, .int, .int, .int, .int, .int, .int, .int, .int, .int, .int, .int, .int, .int, .int, .int, .int, .int, .int, .int, .int, .int, .int, .int, .int, .int, .int, .int, .int]
  resolved := Array.replicate 78 none
  statics := none }

def pool3 : Array CpInfo := pool [(1, u "java/lang/Cloneable"), (0, .class_ 1), (0, u "java/lang/Object"), (0, .class_ 3)] 3

/-- java/lang/Cloneable -/
def k3 : Class := { plain "java/lang/Cloneable" (some 0) with
  accessFlags := 1537
  interfaces := #[]
  cf := some (fileOf pool3 2 #[] #[] 1537 4 #[] #[])
  fields := #[]
  methods := #[]
  instanceTypes := #[]
  staticTypes := #[]
  resolved := Array.replicate 8 none
  statics := none }

def pool4 : Array CpInfo := pool [(1, u "java/io/Serializable"), (0, .class_ 1), (0, u "java/lang/Object"), (0, .class_ 3)] 3

/-- java/io/Serializable -/
def k4 : Class := { plain "java/io/Serializable" (some 0) with
  accessFlags := 1537
  interfaces := #[]
  cf := some (fileOf pool4 2 #[] #[] 1537 4 #[] #[])
  fields := #[]
  methods := #[]
  instanceTypes := #[]
  staticTypes := #[]
  resolved := Array.replicate 8 none
  statics := none }

/-- the primitive byte -/
def k5 : Class := { plain "byte" none with kind := .primitive 'B', accessFlags := 0x411 }
/-- [B -/
def k6 : Class := { plain "[B" (some 0) with kind := .array 5 .byte, interfaces := #[3, 4], accessFlags := 1041 }

/-- the primitive int -/
def k7 : Class := { plain "int" none with kind := .primitive 'I', accessFlags := 0x411 }
/-- [I -/
def k8 : Class := { plain "[I" (some 0) with kind := .array 7 .int, interfaces := #[3, 4], accessFlags := 1041 }

def heap : Heap := #[]
def classes : Array Class := #[k0, k1, k2, k3, k4, k5, k6, k7, k8]
def interned : List (Array UInt16 × Addr) := []
def slotsUsed : Nat := 0
def theMethod : MethodId := ⟨1, 1⟩
def args0 : Array Value := #[.int 5, .int 300]
def aboutOver (below : List Frame) : State where
  vm := { classes := classes, interned := interned.toArray }
  heap := heap
  slotsUsed := slotsUsed
  threads := #[{ frames := .invoking theMethod args0 :: below }]
def below0 : List Frame := [.native { method := ⟨0, 0⟩, args := #[] }]
def about1 : State := aboutOver below0
def p0 : Program := .bare "" "" ""
def e0 : Env := launch0.env 0 0 0
theorem w_frames : about1.frames = Frame.invoking theMethod args0 :: below0 := rfl
set_option maxRecDepth 65536 in
theorem w_args : argsFit about1.vm theMethod args0 = true := by decide +kernel
set_option maxRecDepth 65536 in
theorem w_heap : heapFits about1 = true := by decide +kernel
set_option maxRecDepth 65536 in
theorem w_runnable : about1.curStatus? = some .runnable := by decide +kernel
set_option maxRecDepth 65536 in
theorem w_alone : about1.alone = true := by decide +kernel
set_option maxRecDepth 65536 in
theorem w_named : about1.methodNamed? x = some theMethod := by decide +kernel
set_option maxRecDepth 65536 in
theorem w_hears : about1.hears theMethod below0 = true := by decide +kernel
set_option maxRecDepth 65536 in
theorem w_ripe : about1.ripe theMethod args0 below0 = true := by decide +kernel
theorem w_running : about1.status = .running := rfl
set_option maxRecDepth 65536 in
theorem w_room : about1.hasRoom e0.platform room_1 = true :=
  launch0.hasRoom_least _ room_1 (by decide +kernel) (by decide +kernel) (by decide +kernel) (by decide +kernel) (by decide +kernel) (by decide +kernel)
theorem allAtoms_all (ts : List Jvm.Cond) (a : Array Jvm.Value) (st : Jvm.State) : (allAtoms ts).before a st = ts.all (fun c => c.before a st) := by
  induction ts with
  | nil => rfl
  | cons c t ih =>
    show (Jvm.Cond.and c (allAtoms t)).before a st = _
    rw [Jvm.Cond.before_and, ih, List.all_cons]
def words1 : List Jvm.Cond := Jvm.Cond.code x code maxLocals ret :: tables_1
/-- a 'code' word, met by the world's own term for the bytes: nothing is compared byte by byte -/
theorem code_word {y : MethodName} {bytes : ByteArray} {mx : Nat} {rt : Option FieldType} {a : Array Value} {s : State} {m : MethodId} {meth : Method} {c : Code} (h1 : s.methodNamed? y = some m) (h2 : s.vm.method? m = some meth) (h3 : meth.code = some c) (h4 : c.code = bytes)
    (h5 : (c.maxLocals == mx && c.exceptionTable.isEmpty && decide (c.maxStack ≤ mostOperands) && decide (meth.sig.returnType = rt) && !meth.locks && decide (parseMethodDescriptor y.desc = some meth.sig)) = true) : (Jvm.Cond.code y bytes mx rt).before a s = true := by
  simp only [Bool.and_eq_true, beq_iff_eq, Bool.not_eq_true', decide_eq_true_eq] at h5
  obtain ⟨⟨⟨⟨⟨g1, g2⟩, g3⟩, g4⟩, g5⟩, g6⟩ := h5
  simp [Cond.before, Cond.holds, Cond.value, h1, h2, h3, h4, g1, g2, g3, g4, g5, g6]
def isCode : Jvm.Cond → Bool
  | .code _ _ _ _ => true
  | _ => false
theorem all_split {L : List Jvm.Cond} {P : Jvm.Cond → Bool} (h1 : L.all (fun c => isCode c || P c) = true) (h2 : ∀ c ∈ L.filter isCode, P c = true) : L.all P = true := by
  refine List.all_eq_true.mpr fun c hc => ?_
  have h := List.all_eq_true.mp h1 c hc
  rcases Bool.eq_false_or_eq_true (isCode c) with hi | hi
  · exact h2 c (List.mem_filter.mpr ⟨hc, hi⟩)
  · simpa [hi] using h
set_option maxRecDepth 65536 in
theorem w_c0 : (Jvm.Cond.code x code maxLocals ret).before args0 about1 = true := code_word (m := ⟨1, 1⟩) (meth := k1m1) (c := k1c1) (by decide +kernel) rfl rfl rfl (by decide +kernel)
set_option maxRecDepth 65536 in
theorem w_c1 : (Jvm.Cond.code ({ cls := "com/example/brinewire/brinewire/Format", name := "registeredFlags", desc := "(I)Z" } : Jvm.MethodName) prog_18_method_2_code (1 : Nat) (Option.some Jvm.ClassFile.FieldType.boolean)).before args0 about1 = true := code_word (m := ⟨2, 1⟩) (meth := k2m1) (c := k2c1) (by decide +kernel) rfl rfl rfl (by decide +kernel)
def codes1 : List Jvm.Cond := [Jvm.Cond.code x code maxLocals ret, Jvm.Cond.code ({ cls := "com/example/brinewire/brinewire/Format", name := "registeredFlags", desc := "(I)Z" } : Jvm.MethodName) prog_18_method_2_code (1 : Nat) (Option.some Jvm.ClassFile.FieldType.boolean)]
set_option maxRecDepth 65536 in
theorem codes_eq : words1.filter isCode = codes1 := rfl
theorem w_codes : ∀ c ∈ words1.filter isCode, c.before args0 about1 = true := by
  rw [codes_eq]
  intro c hc
  simp only [codes1, List.mem_cons, List.not_mem_nil, or_false] at hc
  rcases hc with rfl | rfl
  · exact w_c0
  · exact w_c1
set_option maxRecDepth 65536 in
theorem w_t1 : words1.all (fun c => isCode c || c.before args0 about1) = true := by decide +kernel
theorem w_tables : (allAtoms (Jvm.Cond.code x code maxLocals ret :: tables_1)).before args0 about1 = true := by
  rw [allAtoms_all]
  show words1.all (fun c => c.before args0 about1) = true
  refine all_split ?_ w_codes
  rw [w_t1]
set_option maxRecDepth 65536 in
theorem w_case : (Jvm.Cond.and given_1 narrow_1).before args0 about1 = true := by decide +kernel
theorem w_applies : (headSpec (Jvm.Cond.code x code maxLocals ret :: tables_1) room_1).applies x e0.platform about1 = true :=
  (Spec.applies_iff w_frames).mpr ⟨w_running, w_runnable, w_alone, w_named, w_hears, w_ripe, w_room, w_tables⟩
theorem atStart : AtStart classFile x code maxLocals ret World_1 tables_1 room_1 Calls_1 rest_1 Pre_1 launch0 p0 e0 about1 theMethod args0 below0 :=
  ⟨lists_1, trivial, launch0.admits_env _ _ _, launch0.least_env, fairChoices_fair.cas, fairChoices_fair.clock, w_frames, w_args, w_heap, w_applies, trivial, trivial, w_case⟩
end start1
theorem witness_1 : WitnessClaimed_1 := ⟨start1.p0, start1.e0, start1.about1, start1.theMethod, start1.args0, start1.below0, start1.atStart⟩
end Jvm.Pilot.@@N@@
