import JvmDerived
import JvmDerived.Pilot.@@N@@Statement
import JvmDerived.Pilot.@@N@@Code
set_option linter.unusedVariables false
set_option linter.unusedSimpArgs false
@@BLOCK:NumsL.lean.txt@@
namespace Jvm.RoadKit
open Sem ClassFile Op Lib Jvm.Stand Jvm.Free Jvm.LawKit
section New
variable {p : Program} {l : Launch} {e : Env} {R : Room} {s : State} {m : MethodId} {args : Array Value} {below : List Frame} {meth : Method} {c : Code} {T : State} {locs : List Loc} {cells slots : Nat}
theorem retI (X : Stand p l e R s m args below meth c T locs cells slots) (hx : p.tables.exec = Jvm.exec) {pc : Nat} {Ls : Array Slot} {z : Int32} {rest : List Value} (hret : meth.sig.returnType = some .int) (hd : decode c.code pc = .ok (.ireturn, 1)) {fs : List Frame}
    (hl : ∀ (f : JFrame) (acts : List Action), f.method = m → f.locked = none → f.entered = [] → (doReturn e (T.setTop f) acts (some (.int z))).1 = T.setFrames fs) : Steps p.tables e below (T.setTop (mkF m pc Ls (.int z :: rest))) (T.setFrames fs) := by
  have hm' : T.vm.method? m = some meth := X.method'
  have hn : narrow .int (.int z) = .int z := rfl
  show Steps p.tables e below (T.setTop { method := m, pc := pc, locals := Ls, stack := _ :: rest, locked := none }) _
  jvm_step X.here [X.here.top, hx, hd, hm', hret, hn]
  first | (intro acts; rw [hl _ acts rfl rfl rfl]) | rw [hl _ _ rfl rfl rfl]
  exact Steps.refl _
end New
end Jvm.RoadKit
namespace Jvm.Pilot.@@N@@
open Jvm Jvm.ClassFile Sem Op Lib Jvm.Free Jvm.Stand Jvm.LawKit Jvm.RoadKit Bundle Jvm.Pilot.@@N@@.Jvm.D
open Jvm.Free.XT (ushr ushrL cmpL)
/-- from the frame g over the state T the run comes to a return of which Q holds; K cells and N slots are made at the most -/
def Go (p : Program) (e : Env) (below : List Frame) (s : State) (Q : Option Value → Heap → List Loc → Prop) (K N : Nat) (T : State) (g : JFrame) : Prop :=
  ∃ s₂ o, Steps p.tables e below (T.setTop g) s₂ ∧ s₂.status = .running ∧ Ended s₂ below o ∧ ∃ v L, o = .returned v ∧ Q v s₂.heap L ∧ FrameEnd s o s₂ L K N
section Own
variable {p : Program} {l : Launch} {e : Env} {R : Room} {s : State} {m : MethodId} {args : Array Value} {below : List Frame} {meth : Method} {c : Code} {T T' : State} {locs : List Loc} {cells slots K N : Nat} {Q : Option Value → Heap → List Loc → Prop} {g : JFrame}
theorem Go.st (g' : JFrame) (k : ∀ t, Steps p.tables e below (T'.setTop g') t → Steps p.tables e below (T.setTop g) t) (h : Go p e below s Q K N T' g') : Go p e below s Q K N T g := by
  obtain ⟨s₂, o, h1, h2⟩ := h
  exact ⟨s₂, o, k _ h1, h2⟩
theorem Go.of_eq {g' : JFrame} (q : g = g') (h : Go p e below s Q K N T g') : Go p e below s Q K N T g := q ▸ h
theorem Go.retZ (X : Stand p l e R s m args below meth c T locs cells slots) (hx : p.tables.exec = Jvm.exec) (hlk : meth.locks = false) {pc : Nat} {Ls : Array Slot} {z : Int32} {rest : List Value} {t : FieldType} (ht : t = .boolean ∨ t = .byte ∨ t = .char ∨ t = .short) (hret : meth.sig.returnType = some t) (hd : decode c.code pc = .ok (.ireturn, 1))
    (hq : Q (some (.int (nar t z))) T.heap locs) (hk : cells ≤ K) (hn : slots ≤ N) : Go p e below s Q K N T (mkF m pc Ls (.int z :: rest)) := by
  obtain ⟨fs, hr, hrun, hended, hW, hsame⟩ := X.leave (v := some (.int (nar t z))) (fun h => by rw [hret] at h; cases h) hlk
  exact ⟨_, _, retN X hx hret ht hd hr, hrun, hended, _, _, rfl, hq, ⟨_, rfl⟩, hW, hsame.mono hk hn⟩
theorem Go.retI (X : Stand p l e R s m args below meth c T locs cells slots) (hx : p.tables.exec = Jvm.exec) (hlk : meth.locks = false) {pc : Nat} {Ls : Array Slot} {z : Int32} {rest : List Value} (hret : meth.sig.returnType = some .int) (hd : decode c.code pc = .ok (.ireturn, 1))
    (hq : Q (some (.int z)) T.heap locs) (hk : cells ≤ K) (hn : slots ≤ N) : Go p e below s Q K N T (mkF m pc Ls (.int z :: rest)) := by
  obtain ⟨fs, hr, hrun, hended, hW, hsame⟩ := X.leave (v := some (.int z)) (fun h => by rw [hret] at h; cases h) hlk
  exact ⟨_, _, RoadKit.retI X hx hret hd hr, hrun, hended, _, _, rfl, hq, ⟨_, rfl⟩, hW, hsame.mono hk hn⟩
theorem Go.retJ (X : Stand p l e R s m args below meth c T locs cells slots) (hx : p.tables.exec = Jvm.exec) (hlk : meth.locks = false) {pc : Nat} {Ls : Array Slot} {z : Int64} (hret : meth.sig.returnType = some .long) (hd : decode c.code pc = .ok (.lreturn, 1))
    (hq : Q (some (.long z)) T.heap locs) (hk : cells ≤ K) (hn : slots ≤ N) : Go p e below s Q K N T (mkF m pc Ls [.long z]) := by
  obtain ⟨fs, hr, hrun, hended, hW, hsame⟩ := X.leave (v := some (.long z)) (fun h => by rw [hret] at h; cases h) hlk
  exact ⟨_, _, X.lreturnOut hx hret hd hr, hrun, hended, _, _, rfl, hq, ⟨_, rfl⟩, hW, hsame.mono hk hn⟩
theorem Go.retV (X : Stand p l e R s m args below meth c T locs cells slots) (hx : p.tables.exec = Jvm.exec) (hlk : meth.locks = false) {pc : Nat} {Ls : Array Slot} (hret : meth.sig.returnType = none) (hd : decode c.code pc = .ok (.return_, 1))
    (hq : Q none T.heap locs) (hk : cells ≤ K) (hn : slots ≤ N) : Go p e below s Q K N T (mkF m pc Ls []) := by
  obtain ⟨fs, hr, hrun, hended, hW, hsame⟩ := X.leave (v := none) (fun _ => rfl) hlk
  exact ⟨_, _, X.returnOut hx hret hd hr, hrun, hended, _, _, rfl, hq, ⟨_, rfl⟩, hW, hsame.mono hk hn⟩
end Own
theorem own_c1 {x y : Int64} (h : y < x) : cmpL x y = 1 := by unfold cmpL; rw [if_pos h]
theorem own_c0 {x y : Int64} (h : x = y) : cmpL x y = 0 := by unfold cmpL; rw [if_neg (by subst h; exact Int64.lt_irrefl), if_pos h]
theorem own_cm {x y : Int64} (h : x < y) : cmpL x y = -1 := by unfold cmpL; rw [if_neg (Int64.lt_asymm h), if_neg (Int64.ne_of_lt h)]
theorem own_tri (x y : Int64) : x < y ∨ x = y ∨ y < x := by
  rcases Int.lt_trichotomy x.toInt y.toInt with h | h | h
  · exact Or.inl (Int64.lt_iff_toInt_lt.mpr h)
  · exact Or.inr (Or.inl (Int64.toInt_inj.mp h))
  · exact Or.inr (Or.inr (Int64.lt_iff_toInt_lt.mpr h))
theorem own_llT {x y : Int64} (h : x < y) : ifCond.holds .lt (cmpL x y) = true ∧ ifCond.holds .ge (cmpL x y) = false := by rw [own_cm h]; decide
theorem own_llF {x y : Int64} (h : ¬ x < y) : ifCond.holds .lt (cmpL x y) = false ∧ ifCond.holds .ge (cmpL x y) = true := by
  rcases own_tri x y with q | q | q
  · exact absurd q h
  · rw [own_c0 q]; decide
  · rw [own_c1 q]; decide
theorem own_lgT {x y : Int64} (h : y < x) : ifCond.holds .gt (cmpL x y) = true ∧ ifCond.holds .le (cmpL x y) = false := by rw [own_c1 h]; decide
theorem own_lgF {x y : Int64} (h : ¬ y < x) : ifCond.holds .gt (cmpL x y) = false ∧ ifCond.holds .le (cmpL x y) = true := by
  rcases own_tri x y with q | q | q
  · rw [own_cm q]; decide
  · rw [own_c0 q]; decide
  · exact absurd q h
theorem own_leT {x y : Int64} (h : x = y) : ifCond.holds .eq (cmpL x y) = true ∧ ifCond.holds .ne (cmpL x y) = false := by rw [own_c0 h]; decide
theorem own_leF {x y : Int64} (h : ¬ x = y) : ifCond.holds .eq (cmpL x y) = false ∧ ifCond.holds .ne (cmpL x y) = true := by
  rcases own_tri x y with q | q | q
  · rw [own_cm q]; decide
  · exact absurd q h
  · rw [own_c1 q]; decide
theorem own_chr (x : Int32) : 0 ≤ (x.toUInt32.toUInt16.toUInt32.toInt32).toInt ∧ (x.toUInt32.toUInt16.toUInt32.toInt32).toInt < 65536 := by
  have h : ∀ u : UInt16, (u.toUInt32.toInt32).toInt = u.toNat := fun u => by
    have hu := u.toNat_lt
    show ((u.toUInt32).toBitVec).toInt = _
    have hm : (u.toUInt32).toBitVec.toNat = u.toNat := by
      show (u.toUInt32).toNat = _
      simp
    rw [BitVec.toInt_eq_toNat_cond, hm, if_pos (by omega)]
  have h2 := (x.toUInt32.toUInt16).toNat_lt
  rw [h]; omega
theorem own_small (n : Nat) (c : Int32) (h0 : 0 ≤ c.toInt) (h1 : c.toInt < n) (hn : n ≤ 2147483647) : ∃ k : Fin n, c = Int32.ofNat k.val := by
  refine ⟨⟨c.toInt.toNat, by omega⟩, Int32.toInt_inj.mp ?_⟩
  rw [Int32.toInt_ofNat_of_lt (by show c.toInt.toNat < _; omega)]
  show _ = ((c.toInt.toNat : Nat) : Int)
  omega
theorem pn_0 : plainName "com/example/regular_role_reasoner/regularrolereasoner/text/TBoxReader" = true := by first | (simp [plainName, overriddenIn]; done) | decide +kernel
theorem d1_0 : decode prog_58_method_8_code 0 = .ok (.iload_n 0, 1) := by decide +kernel
theorem d1_1 : decode prog_58_method_8_code 1 = .ok (.bipush 97, 2) := by decide +kernel
theorem d1_3 : decode prog_58_method_8_code 3 = .ok (.if_icmp .lt 9, 3) := by decide +kernel
theorem d1_6 : decode prog_58_method_8_code 6 = .ok (.iload_n 0, 1) := by decide +kernel
theorem d1_7 : decode prog_58_method_8_code 7 = .ok (.bipush 122, 2) := by decide +kernel
theorem d1_9 : decode prog_58_method_8_code 9 = .ok (.if_icmp .le 15, 3) := by decide +kernel
theorem d1_12 : decode prog_58_method_8_code 12 = .ok (.iload_n 0, 1) := by decide +kernel
theorem d1_13 : decode prog_58_method_8_code 13 = .ok (.bipush 65, 2) := by decide +kernel
theorem d1_15 : decode prog_58_method_8_code 15 = .ok (.if_icmp .lt 13, 3) := by decide +kernel
theorem d1_18 : decode prog_58_method_8_code 18 = .ok (.iload_n 0, 1) := by decide +kernel
theorem d1_19 : decode prog_58_method_8_code 19 = .ok (.bipush 90, 2) := by decide +kernel
theorem d1_21 : decode prog_58_method_8_code 21 = .ok (.if_icmp .gt 7, 3) := by decide +kernel
theorem d1_24 : decode prog_58_method_8_code 24 = .ok (.iconst 1, 1) := by decide +kernel
theorem d1_25 : decode prog_58_method_8_code 25 = .ok (.goto 4, 3) := by decide +kernel
theorem d1_28 : decode prog_58_method_8_code 28 = .ok (.iconst 0, 1) := by decide +kernel
theorem d1_29 : decode prog_58_method_8_code 29 = .ok (.ireturn, 1) := by decide +kernel
theorem ef_1 (m : MethodId) (p0 : Int32) : entryFrame m #[(.int p0)] 1 = (mkF m 0 #[.val (.int p0)] []) := by first | (simp [entryFrame, mkF, argsToLocals, Value.category]; done) | rfl
def f_1 (p0 : Int32) : Int32 := (if p0 < (97 : Int32) then (if p0 < (65 : Int32) then (0 : Int32) else (if (90 : Int32) < p0 then (0 : Int32) else (1 : Int32))) else (if (122 : Int32) < p0 then (if p0 < (65 : Int32) then (0 : Int32) else (if (90 : Int32) < p0 then (0 : Int32) else (1 : Int32))) else (1 : Int32)))
def Q_1 (p0 : Int32) (h0 : Heap) (n0 : Nat) (v : Option Value) (h : Heap) (L : List Loc) : Prop := v = some (.int (f_1 p0)) ∧ Fr n0 L ∧ h = h0
set_option maxRecDepth 65536 in
set_option maxHeartbeats 40000000 in
theorem rm_1 (l : Launch) (Z : State) (a0 : Array Value) (hw : ∀ d ∈ tables_1, d.before a0 Z = true) (ws : List Jvm.Cond) (p0 : Int32) (h0 : Heap) (n0 : Nat) (Z0 : n0 ≤ h0.size) :
    MetFree l (⟨"com/example/regular_role_reasoner/regularrolereasoner/text/TBoxReader", "isLetter", "(C)Z"⟩ : MethodName) (head1 (Jvm.Cond.code (⟨"com/example/regular_role_reasoner/regularrolereasoner/text/TBoxReader", "isLetter", "(C)Z"⟩ : MethodName) prog_58_method_8_code 1 (some .boolean) :: ws) ({ frames := 0, cells := 0, slots := 0, locals := 0 } : Room)) (fun a U => a = #[(.int p0)] ∧ Z.Warmed39 U.vm ∧ U.heap = h0) (fun _ _ _ _ _ => True) (fun _ U o U' => ∃ v L, o = .returned v ∧ Q_1 p0 h0 n0 v U'.heap L ∧ FrameEnd U o U' L ({ frames := 0, cells := 0, slots := 0, locals := 0 } : Room).cells ({ frames := 0, cells := 0, slots := 0, locals := 0 } : Room).slots) := by
  refine MetFree.of_bodySF (plainFor_of_name pn_0) hisR ?_
  intro p e s m args below meth c s₁ Bd hml0 hP hK
  obtain ⟨rfl, hZ, hh⟩ := hP
  have hx := Bd.exec
  have hby := Bd.bytes
  have hml : c.maxLocals = 1 := hml0
  have hown : s.vm.findClass "com/example/regular_role_reasoner/regularrolereasoner/text/TBoxReader" = some m.cls := findClass_of_methodNamed Bd.named
  have X0 : Stand p l e ({ frames := 0, cells := 0, slots := 0, locals := 0 } : Room) s m #[(.int p0)] below meth c s₁ [] 0 0 := Stand.of_body Bd
  have e0 : s₁.heap = h0 := by rw [← hh, Bd.state]; rfl
  have N0 := Fr.nil n0
  show Go p e below s (Q_1 p0 h0 n0) 0 0 s₁ (entryFrame m #[(.int p0)] 1)
  refine Go.of_eq (ef_1 m p0) ?_
  refine Go.st (mkF m 1 #[.val (.int p0)] [(.int p0)]) (fun _ k => XS.iloadN X0.here hx rfl (hb hby d1_0) rfl k) ?_
  refine Go.st (mkF m 3 #[.val (.int p0)] [(.int (97 : Int32)), (.int p0)]) (fun _ k => XS.bipush X0.here hx rfl (hb hby d1_1) k) ?_
  by_cases hc3_1 : p0 < (97 : Int32)
  ·
    refine Go.st (mkF m 12 #[.val (.int p0)] []) (fun _ k => XS.icmpYes X0.here hx rfl (pc0 := 3) (pc' := 12) rfl (hb hby d1_3) rfl (tlt hc3_1).1 (by decide) (by decide) k) ?_
    refine Go.st (mkF m 13 #[.val (.int p0)] [(.int p0)]) (fun _ k => XS.iloadN X0.here hx rfl (hb hby d1_12) rfl k) ?_
    refine Go.st (mkF m 15 #[.val (.int p0)] [(.int (65 : Int32)), (.int p0)]) (fun _ k => XS.bipush X0.here hx rfl (hb hby d1_13) k) ?_
    by_cases hc15_2 : p0 < (65 : Int32)
    ·
      refine Go.st (mkF m 28 #[.val (.int p0)] []) (fun _ k => XS.icmpYes X0.here hx rfl (pc0 := 15) (pc' := 28) rfl (hb hby d1_15) rfl (tlt hc15_2).1 (by decide) (by decide) k) ?_
      refine Go.st (mkF m 29 #[.val (.int p0)] [(.int (0 : Int32))]) (fun _ k => XS.iconst X0.here hx rfl (hb hby d1_28) k) ?_
      exact Go.retZ X0 hx Bd.notSynchronized (t := .boolean) (by simp) Bd.returns (hb hby d1_29) ⟨congrArg (fun z => some (Value.int z)) (show nar .boolean (0 : Int32) = f_1 p0 from by unfold f_1; rw [if_pos hc3_1, if_pos hc15_2]; first | done | rfl), N0, e0⟩ (by decide) (by decide)
    ·
      refine Go.st (mkF m 18 #[.val (.int p0)] []) (fun _ k => XS.icmpNo X0.here hx rfl (hb hby d1_15) rfl (flt hc15_2).1 k) ?_
      refine Go.st (mkF m 19 #[.val (.int p0)] [(.int p0)]) (fun _ k => XS.iloadN X0.here hx rfl (hb hby d1_18) rfl k) ?_
      refine Go.st (mkF m 21 #[.val (.int p0)] [(.int (90 : Int32)), (.int p0)]) (fun _ k => XS.bipush X0.here hx rfl (hb hby d1_19) k) ?_
      by_cases hc21_3 : (90 : Int32) < p0
      ·
        refine Go.st (mkF m 28 #[.val (.int p0)] []) (fun _ k => XS.icmpYes X0.here hx rfl (pc0 := 21) (pc' := 28) rfl (hb hby d1_21) rfl (tlt hc21_3).2.2.1 (by decide) (by decide) k) ?_
        refine Go.st (mkF m 29 #[.val (.int p0)] [(.int (0 : Int32))]) (fun _ k => XS.iconst X0.here hx rfl (hb hby d1_28) k) ?_
        exact Go.retZ X0 hx Bd.notSynchronized (t := .boolean) (by simp) Bd.returns (hb hby d1_29) ⟨congrArg (fun z => some (Value.int z)) (show nar .boolean (0 : Int32) = f_1 p0 from by unfold f_1; rw [if_pos hc3_1, if_neg hc15_2, if_pos hc21_3]; first | done | rfl), N0, e0⟩ (by decide) (by decide)
      ·
        refine Go.st (mkF m 24 #[.val (.int p0)] []) (fun _ k => XS.icmpNo X0.here hx rfl (hb hby d1_21) rfl (flt hc21_3).2.2.1 k) ?_
        refine Go.st (mkF m 25 #[.val (.int p0)] [(.int (1 : Int32))]) (fun _ k => XS.iconst X0.here hx rfl (hb hby d1_24) k) ?_
        refine Go.st (mkF m 29 #[.val (.int p0)] [(.int (1 : Int32))]) (fun _ k => XS.goto X0.here hx rfl (pc0 := 25) (pc' := 29) rfl (hb hby d1_25) (by decide) (by decide) k) ?_
        exact Go.retZ X0 hx Bd.notSynchronized (t := .boolean) (by simp) Bd.returns (hb hby d1_29) ⟨congrArg (fun z => some (Value.int z)) (show nar .boolean (1 : Int32) = f_1 p0 from by unfold f_1; rw [if_pos hc3_1, if_neg hc15_2, if_neg hc21_3]; first | done | rfl), N0, e0⟩ (by decide) (by decide)
  ·
    refine Go.st (mkF m 6 #[.val (.int p0)] []) (fun _ k => XS.icmpNo X0.here hx rfl (hb hby d1_3) rfl (flt hc3_1).1 k) ?_
    refine Go.st (mkF m 7 #[.val (.int p0)] [(.int p0)]) (fun _ k => XS.iloadN X0.here hx rfl (hb hby d1_6) rfl k) ?_
    refine Go.st (mkF m 9 #[.val (.int p0)] [(.int (122 : Int32)), (.int p0)]) (fun _ k => XS.bipush X0.here hx rfl (hb hby d1_7) k) ?_
    by_cases hc9_4 : (122 : Int32) < p0
    ·
      refine Go.st (mkF m 12 #[.val (.int p0)] []) (fun _ k => XS.icmpNo X0.here hx rfl (hb hby d1_9) rfl (tlt hc9_4).2.2.2 k) ?_
      refine Go.st (mkF m 13 #[.val (.int p0)] [(.int p0)]) (fun _ k => XS.iloadN X0.here hx rfl (hb hby d1_12) rfl k) ?_
      refine Go.st (mkF m 15 #[.val (.int p0)] [(.int (65 : Int32)), (.int p0)]) (fun _ k => XS.bipush X0.here hx rfl (hb hby d1_13) k) ?_
      by_cases hc15_5 : p0 < (65 : Int32)
      ·
        refine Go.st (mkF m 28 #[.val (.int p0)] []) (fun _ k => XS.icmpYes X0.here hx rfl (pc0 := 15) (pc' := 28) rfl (hb hby d1_15) rfl (tlt hc15_5).1 (by decide) (by decide) k) ?_
        refine Go.st (mkF m 29 #[.val (.int p0)] [(.int (0 : Int32))]) (fun _ k => XS.iconst X0.here hx rfl (hb hby d1_28) k) ?_
        exact Go.retZ X0 hx Bd.notSynchronized (t := .boolean) (by simp) Bd.returns (hb hby d1_29) ⟨congrArg (fun z => some (Value.int z)) (show nar .boolean (0 : Int32) = f_1 p0 from by unfold f_1; rw [if_neg hc3_1, if_pos hc9_4, if_pos hc15_5]; first | done | rfl), N0, e0⟩ (by decide) (by decide)
      ·
        refine Go.st (mkF m 18 #[.val (.int p0)] []) (fun _ k => XS.icmpNo X0.here hx rfl (hb hby d1_15) rfl (flt hc15_5).1 k) ?_
        refine Go.st (mkF m 19 #[.val (.int p0)] [(.int p0)]) (fun _ k => XS.iloadN X0.here hx rfl (hb hby d1_18) rfl k) ?_
        refine Go.st (mkF m 21 #[.val (.int p0)] [(.int (90 : Int32)), (.int p0)]) (fun _ k => XS.bipush X0.here hx rfl (hb hby d1_19) k) ?_
        by_cases hc21_6 : (90 : Int32) < p0
        ·
          refine Go.st (mkF m 28 #[.val (.int p0)] []) (fun _ k => XS.icmpYes X0.here hx rfl (pc0 := 21) (pc' := 28) rfl (hb hby d1_21) rfl (tlt hc21_6).2.2.1 (by decide) (by decide) k) ?_
          refine Go.st (mkF m 29 #[.val (.int p0)] [(.int (0 : Int32))]) (fun _ k => XS.iconst X0.here hx rfl (hb hby d1_28) k) ?_
          exact Go.retZ X0 hx Bd.notSynchronized (t := .boolean) (by simp) Bd.returns (hb hby d1_29) ⟨congrArg (fun z => some (Value.int z)) (show nar .boolean (0 : Int32) = f_1 p0 from by unfold f_1; rw [if_neg hc3_1, if_pos hc9_4, if_neg hc15_5, if_pos hc21_6]; first | done | rfl), N0, e0⟩ (by decide) (by decide)
        ·
          refine Go.st (mkF m 24 #[.val (.int p0)] []) (fun _ k => XS.icmpNo X0.here hx rfl (hb hby d1_21) rfl (flt hc21_6).2.2.1 k) ?_
          refine Go.st (mkF m 25 #[.val (.int p0)] [(.int (1 : Int32))]) (fun _ k => XS.iconst X0.here hx rfl (hb hby d1_24) k) ?_
          refine Go.st (mkF m 29 #[.val (.int p0)] [(.int (1 : Int32))]) (fun _ k => XS.goto X0.here hx rfl (pc0 := 25) (pc' := 29) rfl (hb hby d1_25) (by decide) (by decide) k) ?_
          exact Go.retZ X0 hx Bd.notSynchronized (t := .boolean) (by simp) Bd.returns (hb hby d1_29) ⟨congrArg (fun z => some (Value.int z)) (show nar .boolean (1 : Int32) = f_1 p0 from by unfold f_1; rw [if_neg hc3_1, if_pos hc9_4, if_neg hc15_5, if_neg hc21_6]; first | done | rfl), N0, e0⟩ (by decide) (by decide)
    ·
      refine Go.st (mkF m 24 #[.val (.int p0)] []) (fun _ k => XS.icmpYes X0.here hx rfl (pc0 := 9) (pc' := 24) rfl (hb hby d1_9) rfl (flt hc9_4).2.2.2 (by decide) (by decide) k) ?_
      refine Go.st (mkF m 25 #[.val (.int p0)] [(.int (1 : Int32))]) (fun _ k => XS.iconst X0.here hx rfl (hb hby d1_24) k) ?_
      refine Go.st (mkF m 29 #[.val (.int p0)] [(.int (1 : Int32))]) (fun _ k => XS.goto X0.here hx rfl (pc0 := 25) (pc' := 29) rfl (hb hby d1_25) (by decide) (by decide) k) ?_
      exact Go.retZ X0 hx Bd.notSynchronized (t := .boolean) (by simp) Bd.returns (hb hby d1_29) ⟨congrArg (fun z => some (Value.int z)) (show nar .boolean (1 : Int32) = f_1 p0 from by unfold f_1; rw [if_neg hc3_1, if_neg hc9_4]; first | done | rfl), N0, e0⟩ (by decide) (by decide)
theorem pd_0 : parseMethodDescriptor "(C)Z" = some ⟨[.char], some .boolean⟩ := by decide +kernel
theorem d2_0 : decode prog_58_method_7_code 0 = .ok (.iload_n 0, 1) := by decide +kernel
theorem d2_1 : decode prog_58_method_7_code 1 = .ok (.invokestatic 90, 3) := by decide +kernel
theorem d2_4 : decode prog_58_method_7_code 4 = .ok (.ifCond .ne 21, 3) := by decide +kernel
theorem d2_7 : decode prog_58_method_7_code 7 = .ok (.iload_n 0, 1) := by decide +kernel
theorem d2_8 : decode prog_58_method_7_code 8 = .ok (.bipush 48, 2) := by decide +kernel
theorem d2_10 : decode prog_58_method_7_code 10 = .ok (.if_icmp .lt 9, 3) := by decide +kernel
theorem d2_13 : decode prog_58_method_7_code 13 = .ok (.iload_n 0, 1) := by decide +kernel
theorem d2_14 : decode prog_58_method_7_code 14 = .ok (.bipush 57, 2) := by decide +kernel
theorem d2_16 : decode prog_58_method_7_code 16 = .ok (.if_icmp .le 9, 3) := by decide +kernel
theorem d2_19 : decode prog_58_method_7_code 19 = .ok (.iload_n 0, 1) := by decide +kernel
theorem d2_20 : decode prog_58_method_7_code 20 = .ok (.bipush 95, 2) := by decide +kernel
theorem d2_22 : decode prog_58_method_7_code 22 = .ok (.if_icmp .ne 7, 3) := by decide +kernel
theorem d2_25 : decode prog_58_method_7_code 25 = .ok (.iconst 1, 1) := by decide +kernel
theorem d2_26 : decode prog_58_method_7_code 26 = .ok (.goto 4, 3) := by decide +kernel
theorem d2_29 : decode prog_58_method_7_code 29 = .ok (.iconst 0, 1) := by decide +kernel
theorem d2_30 : decode prog_58_method_7_code 30 = .ok (.ireturn, 1) := by decide +kernel
theorem ef_2 (m : MethodId) (p0 : Int32) : entryFrame m #[(.int p0)] 1 = (mkF m 0 #[.val (.int p0)] []) := by first | (simp [entryFrame, mkF, argsToLocals, Value.category]; done) | rfl
def f_2 (p0 : Int32) : Int32 := (if (f_1 p0) = (0 : Int32) then (if p0 < (48 : Int32) then (if p0 = (95 : Int32) then (1 : Int32) else (0 : Int32)) else (if (57 : Int32) < p0 then (if p0 = (95 : Int32) then (1 : Int32) else (0 : Int32)) else (1 : Int32))) else (1 : Int32))
def Q_2 (p0 : Int32) (h0 : Heap) (n0 : Nat) (v : Option Value) (h : Heap) (L : List Loc) : Prop := v = some (.int (f_2 p0)) ∧ Fr n0 L ∧ h = h0
set_option maxRecDepth 65536 in
set_option maxHeartbeats 40000000 in
theorem rm_2 (l : Launch) (Z : State) (a0 : Array Value) (hw : ∀ d ∈ tables_1, d.before a0 Z = true) (ws : List Jvm.Cond) (p0 : Int32) (h0 : Heap) (n0 : Nat) (Z0 : n0 ≤ h0.size) :
    MetFree l (⟨"com/example/regular_role_reasoner/regularrolereasoner/text/TBoxReader", "isWordCharacter", "(C)Z"⟩ : MethodName) (head1 (Jvm.Cond.code (⟨"com/example/regular_role_reasoner/regularrolereasoner/text/TBoxReader", "isWordCharacter", "(C)Z"⟩ : MethodName) prog_58_method_7_code 1 (some .boolean) :: ws) ({ frames := 1, cells := 0, slots := 0, locals := 12 } : Room)) (fun a U => a = #[(.int p0)] ∧ Z.Warmed39 U.vm ∧ U.heap = h0) (fun _ _ _ _ _ => True) (fun _ U o U' => ∃ v L, o = .returned v ∧ Q_2 p0 h0 n0 v U'.heap L ∧ FrameEnd U o U' L ({ frames := 1, cells := 0, slots := 0, locals := 12 } : Room).cells ({ frames := 1, cells := 0, slots := 0, locals := 12 } : Room).slots) := by
  refine MetFree.of_bodySF (plainFor_of_name pn_0) hisR ?_
  intro p e s m args below meth c s₁ Bd hml0 hP hK
  obtain ⟨rfl, hZ, hh⟩ := hP
  have hx := Bd.exec
  have hby := Bd.bytes
  have hml : c.maxLocals = 1 := hml0
  have hown : s.vm.findClass "com/example/regular_role_reasoner/regularrolereasoner/text/TBoxReader" = some m.cls := findClass_of_methodNamed Bd.named
  have X0 : Stand p l e ({ frames := 1, cells := 0, slots := 0, locals := 12 } : Room) s m #[(.int p0)] below meth c s₁ [] 0 0 := Stand.of_body Bd
  have e0 : s₁.heap = h0 := by rw [← hh, Bd.state]; rfl
  have N0 := Fr.nil n0
  show Go p e below s (Q_2 p0 h0 n0) 0 0 s₁ (entryFrame m #[(.int p0)] 1)
  refine Go.of_eq (ef_2 m p0) ?_
  refine Go.st (mkF m 1 #[.val (.int p0)] [(.int p0)]) (fun _ k => XS.iloadN X0.here hx rfl (hb hby d2_0) rfl k) ?_
  obtain ⟨_, _, ⟨T1, L1, k1, n1⟩, -, X1, ⟨Lc1, hQ1, l1, y1, z1⟩, st1⟩ := Jvm.LawKit.callS X0 hx (y := (⟨"com/example/regular_role_reasoner/regularrolereasoner/text/TBoxReader", "isLetter", "(C)Z"⟩ : MethodName)) hown (mvT hZ (hw _ (List.mem_of_getElem? (i := 5) rfl))) (mvT hZ (hw _ (List.mem_of_getElem? (i := 6) rfl))) (mvT hZ (hw _ (List.mem_of_getElem? (i := 3) rfl))) (mvT hZ (hw _ (List.mem_of_getElem? (i := 7) rfl))) (by decide) (backOf (W := 0) (rm_1 l Z a0 hw [] p0 h0 n0 Z0) hZ (hw _ (List.mem_of_getElem? (i := 7) rfl)) (hw _ (List.mem_of_getElem? (i := 3) rfl)) (by decide) (by decide)) (g := (mkF m 1 #[.val (.int p0)] [(.int p0)])) rfl (by rw [hml]; rfl) (argsL := [(.int p0)]) (rest := []) (lenOf pd_0 rfl) rfl (by show 2 * 0 + _ ≤ _; exact Nat.le_of_eq rfl) (hb hby d2_1) (fun _ _ => ⟨rfl, e0, (by decide : 0 + 0 ≤ _), (by decide : 0 + 0 ≤ _)⟩)
  dsimp only [Pt.U, Pt.locs, Pt.cells, Pt.slots] at X1 l1 y1 z1 st1 hQ1
  subst l1 y1 z1
  obtain ⟨rfl, N1q, e1⟩ := hQ1
  have N1 := Fr.app N0 N1q
  refine Go.st (mkF m 4 #[.val (.int p0)] [(.int (f_1 p0))]) (fun _ k => st1 _ k) ?_
  by_cases hc4_2 : (f_1 p0) = (0 : Int32)
  ·
    refine Go.st (mkF m 7 #[.val (.int p0)] []) (fun _ k => XS.ifNo X1.here hx rfl (hb hby d2_4) rfl ((if0 _ _).trans (teq hc4_2).2) k) ?_
    refine Go.st (mkF m 8 #[.val (.int p0)] [(.int p0)]) (fun _ k => XS.iloadN X1.here hx rfl (hb hby d2_7) rfl k) ?_
    refine Go.st (mkF m 10 #[.val (.int p0)] [(.int (48 : Int32)), (.int p0)]) (fun _ k => XS.bipush X1.here hx rfl (hb hby d2_8) k) ?_
    by_cases hc10_3 : p0 < (48 : Int32)
    ·
      refine Go.st (mkF m 19 #[.val (.int p0)] []) (fun _ k => XS.icmpYes X1.here hx rfl (pc0 := 10) (pc' := 19) rfl (hb hby d2_10) rfl (tlt hc10_3).1 (by decide) (by decide) k) ?_
      refine Go.st (mkF m 20 #[.val (.int p0)] [(.int p0)]) (fun _ k => XS.iloadN X1.here hx rfl (hb hby d2_19) rfl k) ?_
      refine Go.st (mkF m 22 #[.val (.int p0)] [(.int (95 : Int32)), (.int p0)]) (fun _ k => XS.bipush X1.here hx rfl (hb hby d2_20) k) ?_
      by_cases hc22_4 : p0 = (95 : Int32)
      ·
        refine Go.st (mkF m 25 #[.val (.int p0)] []) (fun _ k => XS.icmpNo X1.here hx rfl (hb hby d2_22) rfl (teq hc22_4).2 k) ?_
        refine Go.st (mkF m 26 #[.val (.int p0)] [(.int (1 : Int32))]) (fun _ k => XS.iconst X1.here hx rfl (hb hby d2_25) k) ?_
        refine Go.st (mkF m 30 #[.val (.int p0)] [(.int (1 : Int32))]) (fun _ k => XS.goto X1.here hx rfl (pc0 := 26) (pc' := 30) rfl (hb hby d2_26) (by decide) (by decide) k) ?_
        exact Go.retZ X1 hx Bd.notSynchronized (t := .boolean) (by simp) Bd.returns (hb hby d2_30) ⟨congrArg (fun z => some (Value.int z)) (show nar .boolean (1 : Int32) = f_2 p0 from by unfold f_2; rw [if_pos hc4_2, if_pos hc10_3, if_pos hc22_4]; first | done | rfl), N1, e1⟩ (by decide) (by decide)
      ·
        refine Go.st (mkF m 29 #[.val (.int p0)] []) (fun _ k => XS.icmpYes X1.here hx rfl (pc0 := 22) (pc' := 29) rfl (hb hby d2_22) rfl (feq hc22_4).2 (by decide) (by decide) k) ?_
        refine Go.st (mkF m 30 #[.val (.int p0)] [(.int (0 : Int32))]) (fun _ k => XS.iconst X1.here hx rfl (hb hby d2_29) k) ?_
        exact Go.retZ X1 hx Bd.notSynchronized (t := .boolean) (by simp) Bd.returns (hb hby d2_30) ⟨congrArg (fun z => some (Value.int z)) (show nar .boolean (0 : Int32) = f_2 p0 from by unfold f_2; rw [if_pos hc4_2, if_pos hc10_3, if_neg hc22_4]; first | done | rfl), N1, e1⟩ (by decide) (by decide)
    ·
      refine Go.st (mkF m 13 #[.val (.int p0)] []) (fun _ k => XS.icmpNo X1.here hx rfl (hb hby d2_10) rfl (flt hc10_3).1 k) ?_
      refine Go.st (mkF m 14 #[.val (.int p0)] [(.int p0)]) (fun _ k => XS.iloadN X1.here hx rfl (hb hby d2_13) rfl k) ?_
      refine Go.st (mkF m 16 #[.val (.int p0)] [(.int (57 : Int32)), (.int p0)]) (fun _ k => XS.bipush X1.here hx rfl (hb hby d2_14) k) ?_
      by_cases hc16_5 : (57 : Int32) < p0
      ·
        refine Go.st (mkF m 19 #[.val (.int p0)] []) (fun _ k => XS.icmpNo X1.here hx rfl (hb hby d2_16) rfl (tlt hc16_5).2.2.2 k) ?_
        refine Go.st (mkF m 20 #[.val (.int p0)] [(.int p0)]) (fun _ k => XS.iloadN X1.here hx rfl (hb hby d2_19) rfl k) ?_
        refine Go.st (mkF m 22 #[.val (.int p0)] [(.int (95 : Int32)), (.int p0)]) (fun _ k => XS.bipush X1.here hx rfl (hb hby d2_20) k) ?_
        by_cases hc22_6 : p0 = (95 : Int32)
        ·
          refine Go.st (mkF m 25 #[.val (.int p0)] []) (fun _ k => XS.icmpNo X1.here hx rfl (hb hby d2_22) rfl (teq hc22_6).2 k) ?_
          refine Go.st (mkF m 26 #[.val (.int p0)] [(.int (1 : Int32))]) (fun _ k => XS.iconst X1.here hx rfl (hb hby d2_25) k) ?_
          refine Go.st (mkF m 30 #[.val (.int p0)] [(.int (1 : Int32))]) (fun _ k => XS.goto X1.here hx rfl (pc0 := 26) (pc' := 30) rfl (hb hby d2_26) (by decide) (by decide) k) ?_
          exact Go.retZ X1 hx Bd.notSynchronized (t := .boolean) (by simp) Bd.returns (hb hby d2_30) ⟨congrArg (fun z => some (Value.int z)) (show nar .boolean (1 : Int32) = f_2 p0 from by unfold f_2; rw [if_pos hc4_2, if_neg hc10_3, if_pos hc16_5, if_pos hc22_6]; first | done | rfl), N1, e1⟩ (by decide) (by decide)
        ·
          refine Go.st (mkF m 29 #[.val (.int p0)] []) (fun _ k => XS.icmpYes X1.here hx rfl (pc0 := 22) (pc' := 29) rfl (hb hby d2_22) rfl (feq hc22_6).2 (by decide) (by decide) k) ?_
          refine Go.st (mkF m 30 #[.val (.int p0)] [(.int (0 : Int32))]) (fun _ k => XS.iconst X1.here hx rfl (hb hby d2_29) k) ?_
          exact Go.retZ X1 hx Bd.notSynchronized (t := .boolean) (by simp) Bd.returns (hb hby d2_30) ⟨congrArg (fun z => some (Value.int z)) (show nar .boolean (0 : Int32) = f_2 p0 from by unfold f_2; rw [if_pos hc4_2, if_neg hc10_3, if_pos hc16_5, if_neg hc22_6]; first | done | rfl), N1, e1⟩ (by decide) (by decide)
      ·
        refine Go.st (mkF m 25 #[.val (.int p0)] []) (fun _ k => XS.icmpYes X1.here hx rfl (pc0 := 16) (pc' := 25) rfl (hb hby d2_16) rfl (flt hc16_5).2.2.2 (by decide) (by decide) k) ?_
        refine Go.st (mkF m 26 #[.val (.int p0)] [(.int (1 : Int32))]) (fun _ k => XS.iconst X1.here hx rfl (hb hby d2_25) k) ?_
        refine Go.st (mkF m 30 #[.val (.int p0)] [(.int (1 : Int32))]) (fun _ k => XS.goto X1.here hx rfl (pc0 := 26) (pc' := 30) rfl (hb hby d2_26) (by decide) (by decide) k) ?_
        exact Go.retZ X1 hx Bd.notSynchronized (t := .boolean) (by simp) Bd.returns (hb hby d2_30) ⟨congrArg (fun z => some (Value.int z)) (show nar .boolean (1 : Int32) = f_2 p0 from by unfold f_2; rw [if_pos hc4_2, if_neg hc10_3, if_neg hc16_5]; first | done | rfl), N1, e1⟩ (by decide) (by decide)
  ·
    refine Go.st (mkF m 25 #[.val (.int p0)] []) (fun _ k => XS.ifYes X1.here hx rfl (pc0 := 4) (pc' := 25) rfl (hb hby d2_4) rfl ((if0 _ _).trans (feq hc4_2).2) (by decide) (by decide) k) ?_
    refine Go.st (mkF m 26 #[.val (.int p0)] [(.int (1 : Int32))]) (fun _ k => XS.iconst X1.here hx rfl (hb hby d2_25) k) ?_
    refine Go.st (mkF m 30 #[.val (.int p0)] [(.int (1 : Int32))]) (fun _ k => XS.goto X1.here hx rfl (pc0 := 26) (pc' := 30) rfl (hb hby d2_26) (by decide) (by decide) k) ?_
    exact Go.retZ X1 hx Bd.notSynchronized (t := .boolean) (by simp) Bd.returns (hb hby d2_30) ⟨congrArg (fun z => some (Value.int z)) (show nar .boolean (1 : Int32) = f_2 p0 from by unfold f_2; rw [if_neg hc4_2]; first | done | rfl), N1, e1⟩ (by decide) (by decide)
theorem pn_1 : plainName "com/example/regular_role_reasoner/regularrolereasoner/text/TBoxReaderIsWordCharacterPinLaw" = true := by first | (simp [plainName, overriddenIn]; done) | decide +kernel
theorem ef_0 (m : MethodId) (p0 : Int32) : entryFrame m #[(.int p0)] maxLocals = (mkF m 0 #[.val (.int p0), .unset, .unset, .unset, .unset, .unset, .unset, .unset] []) := by first | (simp [entryFrame, mkF, argsToLocals, Value.category, maxLocals]; done) | rfl
def v_u (p0 : Int32) : Int32 := (p0 &&& (65535 : Int32))
def v_c (p0 : Int32) : Int32 := ((v_u p0).toUInt32.toUInt16.toUInt32.toInt32)
def v_folded (p0 : Int32) : Int32 := ((v_u p0) ||| (32 : Int32))
def j0_17_S0 (p0 : Int32) : Int32 := (if (v_u p0) < (128 : Int32) then (if (v_folded p0) < (97 : Int32) then (0 : Int32) else (if (122 : Int32) < (v_folded p0) then (0 : Int32) else (1 : Int32))) else (0 : Int32))
def j0_42_S0 (p0 : Int32) : Int32 := (if (v_u p0) < (48 : Int32) then (0 : Int32) else (if (57 : Int32) < (v_u p0) then (0 : Int32) else (1 : Int32)))
def j0_61_S0 (p0 : Int32) : Int32 := (if (v_u p0) = (95 : Int32) then (1 : Int32) else (0 : Int32))
def j0_73_S0 (p0 : Int32) : Int32 := (if (j0_17_S0 p0) = (0 : Int32) then (if (j0_42_S0 p0) = (0 : Int32) then (if (j0_61_S0 p0) = (0 : Int32) then (0 : Int32) else (1 : Int32)) else (1 : Int32)) else (1 : Int32))
def f_0 (p0 : Int32) : Int32 := (if (f_2 (v_c p0)) = (j0_73_S0 p0) then (1 : Int32) else (0 : Int32))
def Q_0 (p0 : Int32) (h0 : Heap) (n0 : Nat) (v : Option Value) (h : Heap) (L : List Loc) : Prop := v = some (.int (f_0 p0)) ∧ Fr n0 L ∧ h = h0
set_option maxRecDepth 65536 in
set_option maxHeartbeats 40000000 in
theorem rm_0 (l : Launch) (Z : State) (a0 : Array Value) (hw : ∀ d ∈ tables_1, d.before a0 Z = true) (ws : List Jvm.Cond) (p0 : Int32) (h0 : Heap) (n0 : Nat) (Z0 : n0 ≤ h0.size) :
    MetFree l x (head1 (Jvm.Cond.code x code maxLocals ret :: ws) room_1) (fun a U => a = #[(.int p0)] ∧ Z.Warmed39 U.vm ∧ U.heap = h0) (fun _ _ _ _ _ => True) (fun _ U o U' => ∃ v L, o = .returned v ∧ Q_0 p0 h0 n0 v U'.heap L ∧ FrameEnd U o U' L 0 0) := by
  refine MetFree.of_bodySF (plainFor_of_name pn_1) hisR ?_
  intro p e s m args below meth c s₁ Bd hml0 hP hK
  obtain ⟨rfl, hZ, hh⟩ := hP
  have hx := Bd.exec
  have hby := Bd.bytes
  have hml : c.maxLocals = 8 := hml0
  have hown : s.vm.findClass "com/example/regular_role_reasoner/regularrolereasoner/text/TBoxReaderIsWordCharacterPinLaw" = some m.cls := findClass_of_methodNamed Bd.named
  have X0 : Stand p l e room_1 s m #[(.int p0)] below meth c s₁ [] 0 0 := Stand.of_body Bd
  have e0 : s₁.heap = h0 := by rw [← hh, Bd.state]; rfl
  have N0 := Fr.nil n0
  show Go p e below s (Q_0 p0 h0 n0) 0 0 s₁ (entryFrame m #[(.int p0)] maxLocals)
  refine Go.of_eq (ef_0 m p0) ?_
  refine Go.st (mkF m 1 #[.val (.int p0), .unset, .unset, .unset, .unset, .unset, .unset, .unset] [(.int p0)]) (fun _ k => XS.iloadN X0.here hx rfl (hb hby at_0) rfl k) ?_
  refine Go.st (mkF m 3 #[.val (.int p0), .unset, .unset, .unset, .unset, .unset, .unset, .unset] [(.int (65535 : Int32)), (.int p0)]) (fun _ k => X0.ldcInt hx hown (mvT hZ (hw _ (List.mem_of_getElem? (i := 0) rfl))) (g := (mkF m 1 #[.val (.int p0), .unset, .unset, .unset, .unset, .unset, .unset, .unset] [(.int p0)])) rfl (hb hby at_1) _ k) ?_
  refine Go.st (mkF m 4 #[.val (.int p0), .unset, .unset, .unset, .unset, .unset, .unset, .unset] [(.int (p0 &&& (65535 : Int32)))]) (fun _ k => XS.iand X0.here hx rfl (hb hby at_3) rfl k) ?_
  refine Go.st (mkF m 5 #[.val (.int p0), .val (.int (v_u p0)), .unset, .unset, .unset, .unset, .unset, .unset] []) (fun _ k => XS.istoreN X0.here hx rfl (hb hby at_4) rfl (l' := #[.val (.int p0), .val (.int (v_u p0)), .unset, .unset, .unset, .unset, .unset, .unset]) rfl k) ?_
  refine Go.st (mkF m 6 #[.val (.int p0), .val (.int (v_u p0)), .unset, .unset, .unset, .unset, .unset, .unset] [(.int (v_u p0))]) (fun _ k => XS.iloadN X0.here hx rfl (hb hby at_5) rfl k) ?_
  refine Go.st (mkF m 7 #[.val (.int p0), .val (.int (v_u p0)), .unset, .unset, .unset, .unset, .unset, .unset] [(.int ((v_u p0).toUInt32.toUInt16.toUInt32.toInt32))]) (fun _ k => XT.i2c X0.here hx rfl (hb hby at_6) rfl k) ?_
  refine Go.st (mkF m 8 #[.val (.int p0), .val (.int (v_u p0)), .val (.int (v_c p0)), .unset, .unset, .unset, .unset, .unset] []) (fun _ k => XS.istoreN X0.here hx rfl (hb hby at_7) rfl (l' := #[.val (.int p0), .val (.int (v_u p0)), .val (.int (v_c p0)), .unset, .unset, .unset, .unset, .unset]) rfl k) ?_
  refine Go.st (mkF m 9 #[.val (.int p0), .val (.int (v_u p0)), .val (.int (v_c p0)), .unset, .unset, .unset, .unset, .unset] [(.int (v_u p0))]) (fun _ k => XS.iloadN X0.here hx rfl (hb hby at_8) rfl k) ?_
  refine Go.st (mkF m 11 #[.val (.int p0), .val (.int (v_u p0)), .val (.int (v_c p0)), .unset, .unset, .unset, .unset, .unset] [(.int (32 : Int32)), (.int (v_u p0))]) (fun _ k => XS.bipush X0.here hx rfl (hb hby at_9) k) ?_
  refine Go.st (mkF m 12 #[.val (.int p0), .val (.int (v_u p0)), .val (.int (v_c p0)), .unset, .unset, .unset, .unset, .unset] [(.int ((v_u p0) ||| (32 : Int32)))]) (fun _ k => XT.ior X0.here hx rfl (hb hby at_11) rfl k) ?_
  refine Go.st (mkF m 13 #[.val (.int p0), .val (.int (v_u p0)), .val (.int (v_c p0)), .val (.int (v_folded p0)), .unset, .unset, .unset, .unset] []) (fun _ k => XS.istoreN X0.here hx rfl (hb hby at_12) rfl (l' := #[.val (.int p0), .val (.int (v_u p0)), .val (.int (v_c p0)), .val (.int (v_folded p0)), .unset, .unset, .unset, .unset]) rfl k) ?_
  refine Go.st (mkF m 14 #[.val (.int p0), .val (.int (v_u p0)), .val (.int (v_c p0)), .val (.int (v_folded p0)), .unset, .unset, .unset, .unset] [(.int (v_u p0))]) (fun _ k => XS.iloadN X0.here hx rfl (hb hby at_13) rfl k) ?_
  refine Go.st (mkF m 17 #[.val (.int p0), .val (.int (v_u p0)), .val (.int (v_c p0)), .val (.int (v_folded p0)), .unset, .unset, .unset, .unset] [(.int (128 : Int32)), (.int (v_u p0))]) (fun _ k => XS.sipush X0.here hx rfl (hb hby at_14) k) ?_
  have J17 : Go p e below s (Q_0 p0 h0 n0) 0 0 s₁ (mkF m 37 #[.val (.int p0), .val (.int (v_u p0)), .val (.int (v_c p0)), .val (.int (v_folded p0)), .unset, .unset, .unset, .unset] [(.int (j0_17_S0 p0))]) := by
    refine Go.st (mkF m 39 #[.val (.int p0), .val (.int (v_u p0)), .val (.int (v_c p0)), .val (.int (v_folded p0)), .val (.int (j0_17_S0 p0)), .unset, .unset, .unset] []) (fun _ k => XS.istore X0.here hx rfl (hb hby at_37) rfl (l' := #[.val (.int p0), .val (.int (v_u p0)), .val (.int (v_c p0)), .val (.int (v_folded p0)), .val (.int (j0_17_S0 p0)), .unset, .unset, .unset]) rfl k) ?_
    refine Go.st (mkF m 40 #[.val (.int p0), .val (.int (v_u p0)), .val (.int (v_c p0)), .val (.int (v_folded p0)), .val (.int (j0_17_S0 p0)), .unset, .unset, .unset] [(.int (v_u p0))]) (fun _ k => XS.iloadN X0.here hx rfl (hb hby at_39) rfl k) ?_
    refine Go.st (mkF m 42 #[.val (.int p0), .val (.int (v_u p0)), .val (.int (v_c p0)), .val (.int (v_folded p0)), .val (.int (j0_17_S0 p0)), .unset, .unset, .unset] [(.int (48 : Int32)), (.int (v_u p0))]) (fun _ k => XS.bipush X0.here hx rfl (hb hby at_40) k) ?_
    have J42 : Go p e below s (Q_0 p0 h0 n0) 0 0 s₁ (mkF m 56 #[.val (.int p0), .val (.int (v_u p0)), .val (.int (v_c p0)), .val (.int (v_folded p0)), .val (.int (j0_17_S0 p0)), .unset, .unset, .unset] [(.int (j0_42_S0 p0))]) := by
      refine Go.st (mkF m 58 #[.val (.int p0), .val (.int (v_u p0)), .val (.int (v_c p0)), .val (.int (v_folded p0)), .val (.int (j0_17_S0 p0)), .val (.int (j0_42_S0 p0)), .unset, .unset] []) (fun _ k => XS.istore X0.here hx rfl (hb hby at_56) rfl (l' := #[.val (.int p0), .val (.int (v_u p0)), .val (.int (v_c p0)), .val (.int (v_folded p0)), .val (.int (j0_17_S0 p0)), .val (.int (j0_42_S0 p0)), .unset, .unset]) rfl k) ?_
      refine Go.st (mkF m 59 #[.val (.int p0), .val (.int (v_u p0)), .val (.int (v_c p0)), .val (.int (v_folded p0)), .val (.int (j0_17_S0 p0)), .val (.int (j0_42_S0 p0)), .unset, .unset] [(.int (v_u p0))]) (fun _ k => XS.iloadN X0.here hx rfl (hb hby at_58) rfl k) ?_
      refine Go.st (mkF m 61 #[.val (.int p0), .val (.int (v_u p0)), .val (.int (v_c p0)), .val (.int (v_folded p0)), .val (.int (j0_17_S0 p0)), .val (.int (j0_42_S0 p0)), .unset, .unset] [(.int (95 : Int32)), (.int (v_u p0))]) (fun _ k => XS.bipush X0.here hx rfl (hb hby at_59) k) ?_
      have J61 : Go p e below s (Q_0 p0 h0 n0) 0 0 s₁ (mkF m 69 #[.val (.int p0), .val (.int (v_u p0)), .val (.int (v_c p0)), .val (.int (v_folded p0)), .val (.int (j0_17_S0 p0)), .val (.int (j0_42_S0 p0)), .unset, .unset] [(.int (j0_61_S0 p0))]) := by
        refine Go.st (mkF m 71 #[.val (.int p0), .val (.int (v_u p0)), .val (.int (v_c p0)), .val (.int (v_folded p0)), .val (.int (j0_17_S0 p0)), .val (.int (j0_42_S0 p0)), .val (.int (j0_61_S0 p0)), .unset] []) (fun _ k => XS.istore X0.here hx rfl (hb hby at_69) rfl (l' := #[.val (.int p0), .val (.int (v_u p0)), .val (.int (v_c p0)), .val (.int (v_folded p0)), .val (.int (j0_17_S0 p0)), .val (.int (j0_42_S0 p0)), .val (.int (j0_61_S0 p0)), .unset]) rfl k) ?_
        refine Go.st (mkF m 73 #[.val (.int p0), .val (.int (v_u p0)), .val (.int (v_c p0)), .val (.int (v_folded p0)), .val (.int (j0_17_S0 p0)), .val (.int (j0_42_S0 p0)), .val (.int (j0_61_S0 p0)), .unset] [(.int (j0_17_S0 p0))]) (fun _ k => XS.iload X0.here hx rfl (hb hby at_71) rfl k) ?_
        have J73 : Go p e below s (Q_0 p0 h0 n0) 0 0 s₁ (mkF m 91 #[.val (.int p0), .val (.int (v_u p0)), .val (.int (v_c p0)), .val (.int (v_folded p0)), .val (.int (j0_17_S0 p0)), .val (.int (j0_42_S0 p0)), .val (.int (j0_61_S0 p0)), .unset] [(.int (j0_73_S0 p0))]) := by
          refine Go.st (mkF m 93 #[.val (.int p0), .val (.int (v_u p0)), .val (.int (v_c p0)), .val (.int (v_folded p0)), .val (.int (j0_17_S0 p0)), .val (.int (j0_42_S0 p0)), .val (.int (j0_61_S0 p0)), .val (.int (j0_73_S0 p0))] []) (fun _ k => XS.istore X0.here hx rfl (hb hby at_91) rfl (l' := #[.val (.int p0), .val (.int (v_u p0)), .val (.int (v_c p0)), .val (.int (v_folded p0)), .val (.int (j0_17_S0 p0)), .val (.int (j0_42_S0 p0)), .val (.int (j0_61_S0 p0)), .val (.int (j0_73_S0 p0))]) rfl k) ?_
          refine Go.st (mkF m 94 #[.val (.int p0), .val (.int (v_u p0)), .val (.int (v_c p0)), .val (.int (v_folded p0)), .val (.int (j0_17_S0 p0)), .val (.int (j0_42_S0 p0)), .val (.int (j0_61_S0 p0)), .val (.int (j0_73_S0 p0))] [(.int (v_c p0))]) (fun _ k => XS.iloadN X0.here hx rfl (hb hby at_93) rfl k) ?_
          obtain ⟨_, _, ⟨T5, L5, k5, n5⟩, -, X5, ⟨Lc5, hQ5, l5, y5, z5⟩, st5⟩ := Jvm.LawKit.callS X0 hx (y := (⟨"com/example/regular_role_reasoner/regularrolereasoner/text/TBoxReader", "isWordCharacter", "(C)Z"⟩ : MethodName)) hown (mvT hZ (hw _ (List.mem_of_getElem? (i := 1) rfl))) (mvT hZ (hw _ (List.mem_of_getElem? (i := 2) rfl))) (mvT hZ (hw _ (List.mem_of_getElem? (i := 3) rfl))) (mvT hZ (hw _ (List.mem_of_getElem? (i := 4) rfl))) (by decide) (backOf (W := 0) (rm_2 l Z a0 hw [] (v_c p0) h0 n0 Z0) hZ (hw _ (List.mem_of_getElem? (i := 4) rfl)) (hw _ (List.mem_of_getElem? (i := 3) rfl)) (by decide) (by decide)) (g := (mkF m 94 #[.val (.int p0), .val (.int (v_u p0)), .val (.int (v_c p0)), .val (.int (v_folded p0)), .val (.int (j0_17_S0 p0)), .val (.int (j0_42_S0 p0)), .val (.int (j0_61_S0 p0)), .val (.int (j0_73_S0 p0))] [(.int (v_c p0))])) rfl (by rw [hml]; rfl) (argsL := [(.int (v_c p0))]) (rest := []) (lenOf pd_0 rfl) rfl (by show 2 * 0 + _ ≤ _; exact Nat.le_of_eq rfl) (hb hby at_94) (fun _ _ => ⟨rfl, e0, (by decide : 0 + 0 ≤ _), (by decide : 0 + 0 ≤ _)⟩)
          dsimp only [Pt.U, Pt.locs, Pt.cells, Pt.slots] at X5 l5 y5 z5 st5 hQ5
          subst l5 y5 z5
          obtain ⟨rfl, N5q, e5⟩ := hQ5
          have N5 := Fr.app N0 N5q
          refine Go.st (mkF m 97 #[.val (.int p0), .val (.int (v_u p0)), .val (.int (v_c p0)), .val (.int (v_folded p0)), .val (.int (j0_17_S0 p0)), .val (.int (j0_42_S0 p0)), .val (.int (j0_61_S0 p0)), .val (.int (j0_73_S0 p0))] [(.int (f_2 (v_c p0)))]) (fun _ k => st5 _ k) ?_
          refine Go.st (mkF m 99 #[.val (.int p0), .val (.int (v_u p0)), .val (.int (v_c p0)), .val (.int (v_folded p0)), .val (.int (j0_17_S0 p0)), .val (.int (j0_42_S0 p0)), .val (.int (j0_61_S0 p0)), .val (.int (j0_73_S0 p0))] [(.int (j0_73_S0 p0)), (.int (f_2 (v_c p0)))]) (fun _ k => XS.iload X5.here hx rfl (hb hby at_97) rfl k) ?_
          by_cases hc99_6 : (f_2 (v_c p0)) = (j0_73_S0 p0)
          ·
            refine Go.st (mkF m 102 #[.val (.int p0), .val (.int (v_u p0)), .val (.int (v_c p0)), .val (.int (v_folded p0)), .val (.int (j0_17_S0 p0)), .val (.int (j0_42_S0 p0)), .val (.int (j0_61_S0 p0)), .val (.int (j0_73_S0 p0))] []) (fun _ k => XS.icmpNo X5.here hx rfl (hb hby at_99) rfl (teq hc99_6).2 k) ?_
            refine Go.st (mkF m 103 #[.val (.int p0), .val (.int (v_u p0)), .val (.int (v_c p0)), .val (.int (v_folded p0)), .val (.int (j0_17_S0 p0)), .val (.int (j0_42_S0 p0)), .val (.int (j0_61_S0 p0)), .val (.int (j0_73_S0 p0))] [(.int (1 : Int32))]) (fun _ k => XS.iconst X5.here hx rfl (hb hby at_102) k) ?_
            refine Go.st (mkF m 107 #[.val (.int p0), .val (.int (v_u p0)), .val (.int (v_c p0)), .val (.int (v_folded p0)), .val (.int (j0_17_S0 p0)), .val (.int (j0_42_S0 p0)), .val (.int (j0_61_S0 p0)), .val (.int (j0_73_S0 p0))] [(.int (1 : Int32))]) (fun _ k => XS.goto X5.here hx rfl (pc0 := 103) (pc' := 107) rfl (hb hby at_103) (by decide) (by decide) k) ?_
            exact Go.retZ X5 hx Bd.notSynchronized (t := .boolean) (by simp) Bd.returns (hb hby at_107) ⟨congrArg (fun z => some (Value.int z)) (show nar .boolean (1 : Int32) = f_0 p0 from by unfold f_0; rw [if_pos hc99_6]; first | done | rfl), N5, e5⟩ (by decide) (by decide)
          ·
            refine Go.st (mkF m 106 #[.val (.int p0), .val (.int (v_u p0)), .val (.int (v_c p0)), .val (.int (v_folded p0)), .val (.int (j0_17_S0 p0)), .val (.int (j0_42_S0 p0)), .val (.int (j0_61_S0 p0)), .val (.int (j0_73_S0 p0))] []) (fun _ k => XS.icmpYes X5.here hx rfl (pc0 := 99) (pc' := 106) rfl (hb hby at_99) rfl (feq hc99_6).2 (by decide) (by decide) k) ?_
            refine Go.st (mkF m 107 #[.val (.int p0), .val (.int (v_u p0)), .val (.int (v_c p0)), .val (.int (v_folded p0)), .val (.int (j0_17_S0 p0)), .val (.int (j0_42_S0 p0)), .val (.int (j0_61_S0 p0)), .val (.int (j0_73_S0 p0))] [(.int (0 : Int32))]) (fun _ k => XS.iconst X5.here hx rfl (hb hby at_106) k) ?_
            exact Go.retZ X5 hx Bd.notSynchronized (t := .boolean) (by simp) Bd.returns (hb hby at_107) ⟨congrArg (fun z => some (Value.int z)) (show nar .boolean (0 : Int32) = f_0 p0 from by unfold f_0; rw [if_neg hc99_6]; first | done | rfl), N5, e5⟩ (by decide) (by decide)
        by_cases hc73_4 : (j0_17_S0 p0) = (0 : Int32)
        ·
          refine Go.st (mkF m 76 #[.val (.int p0), .val (.int (v_u p0)), .val (.int (v_c p0)), .val (.int (v_folded p0)), .val (.int (j0_17_S0 p0)), .val (.int (j0_42_S0 p0)), .val (.int (j0_61_S0 p0)), .unset] []) (fun _ k => XS.ifNo X0.here hx rfl (hb hby at_73) rfl ((if0 _ _).trans (teq hc73_4).2) k) ?_
          refine Go.st (mkF m 78 #[.val (.int p0), .val (.int (v_u p0)), .val (.int (v_c p0)), .val (.int (v_folded p0)), .val (.int (j0_17_S0 p0)), .val (.int (j0_42_S0 p0)), .val (.int (j0_61_S0 p0)), .unset] [(.int (j0_42_S0 p0))]) (fun _ k => XS.iload X0.here hx rfl (hb hby at_76) rfl k) ?_
          by_cases hc78_7 : (j0_42_S0 p0) = (0 : Int32)
          ·
            refine Go.st (mkF m 81 #[.val (.int p0), .val (.int (v_u p0)), .val (.int (v_c p0)), .val (.int (v_folded p0)), .val (.int (j0_17_S0 p0)), .val (.int (j0_42_S0 p0)), .val (.int (j0_61_S0 p0)), .unset] []) (fun _ k => XS.ifNo X0.here hx rfl (hb hby at_78) rfl ((if0 _ _).trans (teq hc78_7).2) k) ?_
            refine Go.st (mkF m 83 #[.val (.int p0), .val (.int (v_u p0)), .val (.int (v_c p0)), .val (.int (v_folded p0)), .val (.int (j0_17_S0 p0)), .val (.int (j0_42_S0 p0)), .val (.int (j0_61_S0 p0)), .unset] [(.int (j0_61_S0 p0))]) (fun _ k => XS.iload X0.here hx rfl (hb hby at_81) rfl k) ?_
            by_cases hc83_8 : (j0_61_S0 p0) = (0 : Int32)
            ·
              refine Go.st (mkF m 90 #[.val (.int p0), .val (.int (v_u p0)), .val (.int (v_c p0)), .val (.int (v_folded p0)), .val (.int (j0_17_S0 p0)), .val (.int (j0_42_S0 p0)), .val (.int (j0_61_S0 p0)), .unset] []) (fun _ k => XS.ifYes X0.here hx rfl (pc0 := 83) (pc' := 90) rfl (hb hby at_83) rfl ((if0 _ _).trans (teq hc83_8).1) (by decide) (by decide) k) ?_
              refine Go.st (mkF m 91 #[.val (.int p0), .val (.int (v_u p0)), .val (.int (v_c p0)), .val (.int (v_folded p0)), .val (.int (j0_17_S0 p0)), .val (.int (j0_42_S0 p0)), .val (.int (j0_61_S0 p0)), .unset] [(.int (0 : Int32))]) (fun _ k => XS.iconst X0.here hx rfl (hb hby at_90) k) ?_
              rw [show (j0_73_S0 p0) = (0 : Int32) from by unfold j0_73_S0; rw [if_pos hc73_4, if_pos hc78_7, if_pos hc83_8]] at J73
              exact J73
            ·
              refine Go.st (mkF m 86 #[.val (.int p0), .val (.int (v_u p0)), .val (.int (v_c p0)), .val (.int (v_folded p0)), .val (.int (j0_17_S0 p0)), .val (.int (j0_42_S0 p0)), .val (.int (j0_61_S0 p0)), .unset] []) (fun _ k => XS.ifNo X0.here hx rfl (hb hby at_83) rfl ((if0 _ _).trans (feq hc83_8).1) k) ?_
              refine Go.st (mkF m 87 #[.val (.int p0), .val (.int (v_u p0)), .val (.int (v_c p0)), .val (.int (v_folded p0)), .val (.int (j0_17_S0 p0)), .val (.int (j0_42_S0 p0)), .val (.int (j0_61_S0 p0)), .unset] [(.int (1 : Int32))]) (fun _ k => XS.iconst X0.here hx rfl (hb hby at_86) k) ?_
              refine Go.st (mkF m 91 #[.val (.int p0), .val (.int (v_u p0)), .val (.int (v_c p0)), .val (.int (v_folded p0)), .val (.int (j0_17_S0 p0)), .val (.int (j0_42_S0 p0)), .val (.int (j0_61_S0 p0)), .unset] [(.int (1 : Int32))]) (fun _ k => XS.goto X0.here hx rfl (pc0 := 87) (pc' := 91) rfl (hb hby at_87) (by decide) (by decide) k) ?_
              rw [show (j0_73_S0 p0) = (1 : Int32) from by unfold j0_73_S0; rw [if_pos hc73_4, if_pos hc78_7, if_neg hc83_8]] at J73
              exact J73
          ·
            refine Go.st (mkF m 86 #[.val (.int p0), .val (.int (v_u p0)), .val (.int (v_c p0)), .val (.int (v_folded p0)), .val (.int (j0_17_S0 p0)), .val (.int (j0_42_S0 p0)), .val (.int (j0_61_S0 p0)), .unset] []) (fun _ k => XS.ifYes X0.here hx rfl (pc0 := 78) (pc' := 86) rfl (hb hby at_78) rfl ((if0 _ _).trans (feq hc78_7).2) (by decide) (by decide) k) ?_
            refine Go.st (mkF m 87 #[.val (.int p0), .val (.int (v_u p0)), .val (.int (v_c p0)), .val (.int (v_folded p0)), .val (.int (j0_17_S0 p0)), .val (.int (j0_42_S0 p0)), .val (.int (j0_61_S0 p0)), .unset] [(.int (1 : Int32))]) (fun _ k => XS.iconst X0.here hx rfl (hb hby at_86) k) ?_
            refine Go.st (mkF m 91 #[.val (.int p0), .val (.int (v_u p0)), .val (.int (v_c p0)), .val (.int (v_folded p0)), .val (.int (j0_17_S0 p0)), .val (.int (j0_42_S0 p0)), .val (.int (j0_61_S0 p0)), .unset] [(.int (1 : Int32))]) (fun _ k => XS.goto X0.here hx rfl (pc0 := 87) (pc' := 91) rfl (hb hby at_87) (by decide) (by decide) k) ?_
            rw [show (j0_73_S0 p0) = (1 : Int32) from by unfold j0_73_S0; rw [if_pos hc73_4, if_neg hc78_7]] at J73
            exact J73
        ·
          refine Go.st (mkF m 86 #[.val (.int p0), .val (.int (v_u p0)), .val (.int (v_c p0)), .val (.int (v_folded p0)), .val (.int (j0_17_S0 p0)), .val (.int (j0_42_S0 p0)), .val (.int (j0_61_S0 p0)), .unset] []) (fun _ k => XS.ifYes X0.here hx rfl (pc0 := 73) (pc' := 86) rfl (hb hby at_73) rfl ((if0 _ _).trans (feq hc73_4).2) (by decide) (by decide) k) ?_
          refine Go.st (mkF m 87 #[.val (.int p0), .val (.int (v_u p0)), .val (.int (v_c p0)), .val (.int (v_folded p0)), .val (.int (j0_17_S0 p0)), .val (.int (j0_42_S0 p0)), .val (.int (j0_61_S0 p0)), .unset] [(.int (1 : Int32))]) (fun _ k => XS.iconst X0.here hx rfl (hb hby at_86) k) ?_
          refine Go.st (mkF m 91 #[.val (.int p0), .val (.int (v_u p0)), .val (.int (v_c p0)), .val (.int (v_folded p0)), .val (.int (j0_17_S0 p0)), .val (.int (j0_42_S0 p0)), .val (.int (j0_61_S0 p0)), .unset] [(.int (1 : Int32))]) (fun _ k => XS.goto X0.here hx rfl (pc0 := 87) (pc' := 91) rfl (hb hby at_87) (by decide) (by decide) k) ?_
          rw [show (j0_73_S0 p0) = (1 : Int32) from by unfold j0_73_S0; rw [if_neg hc73_4]] at J73
          exact J73
      by_cases hc61_3 : (v_u p0) = (95 : Int32)
      ·
        refine Go.st (mkF m 64 #[.val (.int p0), .val (.int (v_u p0)), .val (.int (v_c p0)), .val (.int (v_folded p0)), .val (.int (j0_17_S0 p0)), .val (.int (j0_42_S0 p0)), .unset, .unset] []) (fun _ k => XS.icmpNo X0.here hx rfl (hb hby at_61) rfl (teq hc61_3).2 k) ?_
        refine Go.st (mkF m 65 #[.val (.int p0), .val (.int (v_u p0)), .val (.int (v_c p0)), .val (.int (v_folded p0)), .val (.int (j0_17_S0 p0)), .val (.int (j0_42_S0 p0)), .unset, .unset] [(.int (1 : Int32))]) (fun _ k => XS.iconst X0.here hx rfl (hb hby at_64) k) ?_
        refine Go.st (mkF m 69 #[.val (.int p0), .val (.int (v_u p0)), .val (.int (v_c p0)), .val (.int (v_folded p0)), .val (.int (j0_17_S0 p0)), .val (.int (j0_42_S0 p0)), .unset, .unset] [(.int (1 : Int32))]) (fun _ k => XS.goto X0.here hx rfl (pc0 := 65) (pc' := 69) rfl (hb hby at_65) (by decide) (by decide) k) ?_
        rw [show (j0_61_S0 p0) = (1 : Int32) from by unfold j0_61_S0; rw [if_pos hc61_3]] at J61
        exact J61
      ·
        refine Go.st (mkF m 68 #[.val (.int p0), .val (.int (v_u p0)), .val (.int (v_c p0)), .val (.int (v_folded p0)), .val (.int (j0_17_S0 p0)), .val (.int (j0_42_S0 p0)), .unset, .unset] []) (fun _ k => XS.icmpYes X0.here hx rfl (pc0 := 61) (pc' := 68) rfl (hb hby at_61) rfl (feq hc61_3).2 (by decide) (by decide) k) ?_
        refine Go.st (mkF m 69 #[.val (.int p0), .val (.int (v_u p0)), .val (.int (v_c p0)), .val (.int (v_folded p0)), .val (.int (j0_17_S0 p0)), .val (.int (j0_42_S0 p0)), .unset, .unset] [(.int (0 : Int32))]) (fun _ k => XS.iconst X0.here hx rfl (hb hby at_68) k) ?_
        rw [show (j0_61_S0 p0) = (0 : Int32) from by unfold j0_61_S0; rw [if_neg hc61_3]] at J61
        exact J61
    by_cases hc42_2 : (v_u p0) < (48 : Int32)
    ·
      refine Go.st (mkF m 55 #[.val (.int p0), .val (.int (v_u p0)), .val (.int (v_c p0)), .val (.int (v_folded p0)), .val (.int (j0_17_S0 p0)), .unset, .unset, .unset] []) (fun _ k => XS.icmpYes X0.here hx rfl (pc0 := 42) (pc' := 55) rfl (hb hby at_42) rfl (tlt hc42_2).1 (by decide) (by decide) k) ?_
      refine Go.st (mkF m 56 #[.val (.int p0), .val (.int (v_u p0)), .val (.int (v_c p0)), .val (.int (v_folded p0)), .val (.int (j0_17_S0 p0)), .unset, .unset, .unset] [(.int (0 : Int32))]) (fun _ k => XS.iconst X0.here hx rfl (hb hby at_55) k) ?_
      rw [show (j0_42_S0 p0) = (0 : Int32) from by unfold j0_42_S0; rw [if_pos hc42_2]] at J42
      exact J42
    ·
      refine Go.st (mkF m 45 #[.val (.int p0), .val (.int (v_u p0)), .val (.int (v_c p0)), .val (.int (v_folded p0)), .val (.int (j0_17_S0 p0)), .unset, .unset, .unset] []) (fun _ k => XS.icmpNo X0.here hx rfl (hb hby at_42) rfl (flt hc42_2).1 k) ?_
      refine Go.st (mkF m 46 #[.val (.int p0), .val (.int (v_u p0)), .val (.int (v_c p0)), .val (.int (v_folded p0)), .val (.int (j0_17_S0 p0)), .unset, .unset, .unset] [(.int (v_u p0))]) (fun _ k => XS.iloadN X0.here hx rfl (hb hby at_45) rfl k) ?_
      refine Go.st (mkF m 48 #[.val (.int p0), .val (.int (v_u p0)), .val (.int (v_c p0)), .val (.int (v_folded p0)), .val (.int (j0_17_S0 p0)), .unset, .unset, .unset] [(.int (57 : Int32)), (.int (v_u p0))]) (fun _ k => XS.bipush X0.here hx rfl (hb hby at_46) k) ?_
      by_cases hc48_9 : (57 : Int32) < (v_u p0)
      ·
        refine Go.st (mkF m 55 #[.val (.int p0), .val (.int (v_u p0)), .val (.int (v_c p0)), .val (.int (v_folded p0)), .val (.int (j0_17_S0 p0)), .unset, .unset, .unset] []) (fun _ k => XS.icmpYes X0.here hx rfl (pc0 := 48) (pc' := 55) rfl (hb hby at_48) rfl (tlt hc48_9).2.2.1 (by decide) (by decide) k) ?_
        refine Go.st (mkF m 56 #[.val (.int p0), .val (.int (v_u p0)), .val (.int (v_c p0)), .val (.int (v_folded p0)), .val (.int (j0_17_S0 p0)), .unset, .unset, .unset] [(.int (0 : Int32))]) (fun _ k => XS.iconst X0.here hx rfl (hb hby at_55) k) ?_
        rw [show (j0_42_S0 p0) = (0 : Int32) from by unfold j0_42_S0; rw [if_neg hc42_2, if_pos hc48_9]] at J42
        exact J42
      ·
        refine Go.st (mkF m 51 #[.val (.int p0), .val (.int (v_u p0)), .val (.int (v_c p0)), .val (.int (v_folded p0)), .val (.int (j0_17_S0 p0)), .unset, .unset, .unset] []) (fun _ k => XS.icmpNo X0.here hx rfl (hb hby at_48) rfl (flt hc48_9).2.2.1 k) ?_
        refine Go.st (mkF m 52 #[.val (.int p0), .val (.int (v_u p0)), .val (.int (v_c p0)), .val (.int (v_folded p0)), .val (.int (j0_17_S0 p0)), .unset, .unset, .unset] [(.int (1 : Int32))]) (fun _ k => XS.iconst X0.here hx rfl (hb hby at_51) k) ?_
        refine Go.st (mkF m 56 #[.val (.int p0), .val (.int (v_u p0)), .val (.int (v_c p0)), .val (.int (v_folded p0)), .val (.int (j0_17_S0 p0)), .unset, .unset, .unset] [(.int (1 : Int32))]) (fun _ k => XS.goto X0.here hx rfl (pc0 := 52) (pc' := 56) rfl (hb hby at_52) (by decide) (by decide) k) ?_
        rw [show (j0_42_S0 p0) = (1 : Int32) from by unfold j0_42_S0; rw [if_neg hc42_2, if_neg hc48_9]] at J42
        exact J42
  by_cases hc17_1 : (v_u p0) < (128 : Int32)
  ·
    refine Go.st (mkF m 20 #[.val (.int p0), .val (.int (v_u p0)), .val (.int (v_c p0)), .val (.int (v_folded p0)), .unset, .unset, .unset, .unset] []) (fun _ k => XS.icmpNo X0.here hx rfl (hb hby at_17) rfl (tlt hc17_1).2.1 k) ?_
    refine Go.st (mkF m 21 #[.val (.int p0), .val (.int (v_u p0)), .val (.int (v_c p0)), .val (.int (v_folded p0)), .unset, .unset, .unset, .unset] [(.int (v_folded p0))]) (fun _ k => XS.iloadN X0.here hx rfl (hb hby at_20) rfl k) ?_
    refine Go.st (mkF m 23 #[.val (.int p0), .val (.int (v_u p0)), .val (.int (v_c p0)), .val (.int (v_folded p0)), .unset, .unset, .unset, .unset] [(.int (97 : Int32)), (.int (v_folded p0))]) (fun _ k => XS.bipush X0.here hx rfl (hb hby at_21) k) ?_
    by_cases hc23_10 : (v_folded p0) < (97 : Int32)
    ·
      refine Go.st (mkF m 36 #[.val (.int p0), .val (.int (v_u p0)), .val (.int (v_c p0)), .val (.int (v_folded p0)), .unset, .unset, .unset, .unset] []) (fun _ k => XS.icmpYes X0.here hx rfl (pc0 := 23) (pc' := 36) rfl (hb hby at_23) rfl (tlt hc23_10).1 (by decide) (by decide) k) ?_
      refine Go.st (mkF m 37 #[.val (.int p0), .val (.int (v_u p0)), .val (.int (v_c p0)), .val (.int (v_folded p0)), .unset, .unset, .unset, .unset] [(.int (0 : Int32))]) (fun _ k => XS.iconst X0.here hx rfl (hb hby at_36) k) ?_
      rw [show (j0_17_S0 p0) = (0 : Int32) from by unfold j0_17_S0; rw [if_pos hc17_1, if_pos hc23_10]] at J17
      exact J17
    ·
      refine Go.st (mkF m 26 #[.val (.int p0), .val (.int (v_u p0)), .val (.int (v_c p0)), .val (.int (v_folded p0)), .unset, .unset, .unset, .unset] []) (fun _ k => XS.icmpNo X0.here hx rfl (hb hby at_23) rfl (flt hc23_10).1 k) ?_
      refine Go.st (mkF m 27 #[.val (.int p0), .val (.int (v_u p0)), .val (.int (v_c p0)), .val (.int (v_folded p0)), .unset, .unset, .unset, .unset] [(.int (v_folded p0))]) (fun _ k => XS.iloadN X0.here hx rfl (hb hby at_26) rfl k) ?_
      refine Go.st (mkF m 29 #[.val (.int p0), .val (.int (v_u p0)), .val (.int (v_c p0)), .val (.int (v_folded p0)), .unset, .unset, .unset, .unset] [(.int (122 : Int32)), (.int (v_folded p0))]) (fun _ k => XS.bipush X0.here hx rfl (hb hby at_27) k) ?_
      by_cases hc29_11 : (122 : Int32) < (v_folded p0)
      ·
        refine Go.st (mkF m 36 #[.val (.int p0), .val (.int (v_u p0)), .val (.int (v_c p0)), .val (.int (v_folded p0)), .unset, .unset, .unset, .unset] []) (fun _ k => XS.icmpYes X0.here hx rfl (pc0 := 29) (pc' := 36) rfl (hb hby at_29) rfl (tlt hc29_11).2.2.1 (by decide) (by decide) k) ?_
        refine Go.st (mkF m 37 #[.val (.int p0), .val (.int (v_u p0)), .val (.int (v_c p0)), .val (.int (v_folded p0)), .unset, .unset, .unset, .unset] [(.int (0 : Int32))]) (fun _ k => XS.iconst X0.here hx rfl (hb hby at_36) k) ?_
        rw [show (j0_17_S0 p0) = (0 : Int32) from by unfold j0_17_S0; rw [if_pos hc17_1, if_neg hc23_10, if_pos hc29_11]] at J17
        exact J17
      ·
        refine Go.st (mkF m 32 #[.val (.int p0), .val (.int (v_u p0)), .val (.int (v_c p0)), .val (.int (v_folded p0)), .unset, .unset, .unset, .unset] []) (fun _ k => XS.icmpNo X0.here hx rfl (hb hby at_29) rfl (flt hc29_11).2.2.1 k) ?_
        refine Go.st (mkF m 33 #[.val (.int p0), .val (.int (v_u p0)), .val (.int (v_c p0)), .val (.int (v_folded p0)), .unset, .unset, .unset, .unset] [(.int (1 : Int32))]) (fun _ k => XS.iconst X0.here hx rfl (hb hby at_32) k) ?_
        refine Go.st (mkF m 37 #[.val (.int p0), .val (.int (v_u p0)), .val (.int (v_c p0)), .val (.int (v_folded p0)), .unset, .unset, .unset, .unset] [(.int (1 : Int32))]) (fun _ k => XS.goto X0.here hx rfl (pc0 := 33) (pc' := 37) rfl (hb hby at_33) (by decide) (by decide) k) ?_
        rw [show (j0_17_S0 p0) = (1 : Int32) from by unfold j0_17_S0; rw [if_pos hc17_1, if_neg hc23_10, if_neg hc29_11]] at J17
        exact J17
  ·
    refine Go.st (mkF m 36 #[.val (.int p0), .val (.int (v_u p0)), .val (.int (v_c p0)), .val (.int (v_folded p0)), .unset, .unset, .unset, .unset] []) (fun _ k => XS.icmpYes X0.here hx rfl (pc0 := 17) (pc' := 36) rfl (hb hby at_17) rfl (flt hc17_1).2.1 (by decide) (by decide) k) ?_
    refine Go.st (mkF m 37 #[.val (.int p0), .val (.int (v_u p0)), .val (.int (v_c p0)), .val (.int (v_folded p0)), .unset, .unset, .unset, .unset] [(.int (0 : Int32))]) (fun _ k => XS.iconst X0.here hx rfl (hb hby at_36) k) ?_
    rw [show (j0_17_S0 p0) = (0 : Int32) from by unfold j0_17_S0; rw [if_neg hc17_1]] at J17
    exact J17
theorem own_all : ∀ k : Fin 128, f_0 (Int32.ofNat k.val) = 1 := by decide +kernel
theorem own_u (p : Int32) : 0 ≤ (v_u p).toInt ∧ (v_u p).toInt < 65536 := by
  unfold v_u
  rw [Jvm.Kit.i32_mask _ 65535 (k := 16) (by decide) (by decide)]
  omega
theorem own_uu (p : Int32) : v_u (v_u p) = v_u p := by
  apply Int32.toInt_inj.mp
  have h := own_u p
  have e : (v_u (v_u p)).toInt = (v_u p).toInt % 2 ^ 16 := Jvm.Kit.i32_mask _ 65535 (k := 16) (by decide) (by decide)
  omega
theorem own_chr_id (x : Int32) (h0 : 0 ≤ x.toInt) (h1 : x.toInt < 65536) : x.toUInt32.toUInt16.toUInt32.toInt32 = x := by
  apply Int32.toInt_inj.mp
  have hb : x.toBitVec.toNat < 65536 := by
    have q : x.toInt = x.toBitVec.toInt := rfl
    have := x.toBitVec.isLt
    rw [BitVec.toInt_eq_toNat_cond] at q
    split at q <;> omega
  have e : (x.toUInt32.toUInt16.toUInt32.toInt32).toBitVec = x.toBitVec := by
    apply BitVec.eq_of_toNat_eq
    show (x.toUInt32.toUInt16.toUInt32).toNat = x.toBitVec.toNat
    have : x.toUInt32.toNat = x.toBitVec.toNat := rfl
    simp only [UInt16.toNat_toUInt32, UInt32.toNat_toUInt16, this]
    omega
  show (x.toUInt32.toUInt16.toUInt32.toInt32).toBitVec.toInt = x.toBitVec.toInt
  rw [e]
theorem own_law (p : Int32) : f_0 p = 1 := by
  have hu := own_u p
  have hc : v_c p = v_u p := by unfold v_c; exact own_chr_id _ hu.1 hu.2
  by_cases h : v_u p < 128
  · have e : (128 : Int32).toInt = 128 := by decide
    have h' := Int32.lt_iff_toInt_lt.mp h
    obtain ⟨k, hk⟩ := own_small 128 (v_u p) hu.1 (by omega) (by decide)
    have q : f_0 p = f_0 (v_u p) := by
      unfold f_0 j0_73_S0 j0_61_S0 j0_42_S0 j0_17_S0 v_folded v_c
      rw [own_uu]
    rw [q, hk]; exact own_all k
  · have hn : ∀ d : Int32, d < 128 → ¬ v_u p = d := fun d hd q => h (q ▸ hd)
    have hl : ∀ d : Int32, d < 128 → ¬ v_u p < d := fun d hd q => h (Int32.lt_trans q hd)
    have hg : ∀ d : Int32, d < 128 → d < v_u p := fun d hd => by
      rw [Int32.lt_iff_toInt_lt] at h hd ⊢; omega
    unfold f_0 f_2 f_1 j0_73_S0 j0_61_S0 j0_42_S0 j0_17_S0
    rw [hc]
    simp only [if_neg h, if_neg (hl 97 (by decide)), if_pos (hg 122 (by decide)), if_neg (hl 65 (by decide)), if_pos (hg 90 (by decide)), if_neg (hl 48 (by decide)), if_pos (hg 57 (by decide)), if_neg (hn 95 (by decide))]
    decide
set_option maxRecDepth 65536 in
set_option maxHeartbeats 40000000 in
theorem comes_1 {Post : Tables → Env → Array Value → State → Outcome → State → Prop} (hpost : ∀ tb e args s v u, (limb_1_1.after args s (.returned v) u = true ∧ limb_1_2.after args s (.returned v) u = true ∧ True) → FrameEnd s (.returned v) u (Jvm.fieldLocs frame_1_writes args s ++ Jvm.arrayLocs frame_1_arrays args s ++ Jvm.staticLocs frame_1_statics s) 0 0 → Post tb e args s (.returned v) u) :
    ArmFor flags0 classFile x code maxLocals ret World_1 tables_1 room_1 Calls_1 rest_1 Pre_1 Post := by
  intro l hfl _ _ p e ha hc hk s m args below hf hA hF happ hP
  obtain ⟨hcalls, hrest, hpre⟩ := hP
  obtain ⟨-, -, -, hnamed, -, -, -, hat⟩ := (Spec.applies_iff hf).mp happ
  obtain ⟨hg, hn⟩ := and_e (Cond.before_iff.mp (show (Jvm.Cond.and given_1 narrow_1).before args s = true from hpre))
  obtain ⟨h1, g0⟩ := and_e hg
  obtain ⟨w0, rfl⟩ : ∃ w0 : Value, args = #[w0] := by
    have hs : args.size = 1 := by simpa [Cond.value, given_1] using h1
    obtain ⟨L⟩ := args
    match L, hs with
    | [w0], _ => exact ⟨w0, rfl⟩
  have hw := fun d (hd : d ∈ tables_1) => atoms_spec (ws := Jvm.Cond.code x code maxLocals ret :: tables_1) hat d (List.mem_cons_of_mem _ hd)
  obtain ⟨i0, e0⟩ := is_v g0
  obtain rfl : w0 = (.int i0) := Option.some.inj e0
  obtain ⟨n, o, h1, h2, h3, _, L, rfl, ⟨rfl, N, _⟩, hq⟩ := rm_0 l s _ hw tables_1 i0 s.heap s.heap.size (Nat.le_refl _) p e ha hc hk s m _ below hf ((Spec.applies_iff_loose hf).mp happ).1 ⟨rfl, State.Warmed39.refl s, rfl⟩ trivial
  have ht : f_0 i0 = 1 := own_law i0
  rw [ht] at h3 hq
  refine ⟨n, _, h1, h2, h3, hpost _ _ _ _ _ _ ⟨Cond.after_iff.mpr rfl, Cond.after_iff.mpr (eq_i res_at (Term.int_eval (1)) rfl), trivial⟩ ⟨hq.1, hq.2.1, (hq.2.2.sift fun y hy => Or.inr (N y hy)).mono (by decide) (by decide)⟩⟩
theorem main_1_1 : Claimed_1_1 := comes_1 fun _ _ _ _ _ _ h hF => ⟨h.1, hF⟩
theorem main_1_2 : Claimed_1_2 := comes_1 fun _ _ _ _ _ _ h hF => ⟨h.2.1, hF⟩
end Jvm.Pilot.@@N@@
namespace Jvm.Pilot.@@N@@
open Jvm Jvm.ClassFile Sem Op Lib Jvm.Free Jvm.Stand Jvm.Pilot.@@N@@.Jvm.D
/-! MADE BY PROGRAM (witnessworld.py) out of the Statement's table words and the real class files: 9 classes; the members and pool entries that the words name. The judged class is class 1, her method 1. -/
namespace start1
open Jvm.ClassFile
def u (s : String) : CpInfo := .utf8 (stringToUtf16 s)
/-- a pool by its gaps: so many unusable entries, then the entry; so many at the end -/
def gap : Nat → List CpInfo → List CpInfo
  | 0, r => r
  | n + 1, r => .unusable :: gap n r
def poolList (es : List (Nat × CpInfo)) (last : Nat) : List CpInfo := es.foldr (fun e r => gap e.1 (e.2 :: r)) (gap last [])
def pool (es : List (Nat × CpInfo)) (last : Nat) : Array CpInfo := ⟨poolList es last⟩
def fileOf (pool : Array CpInfo) (this : Nat) (attrs : Array Attribute := #[]) (ms : Array MethodInfo := #[]) (fl : Nat := 33) (sup : Nat := 0) (ifs : Array Nat := #[]) (fds : Array FieldInfo := #[]) : ClassFile where
  minorVersion := 0
  majorVersion := 65
  constantPool := pool
  accessFlags := fl
  thisClass := this
  superClass := sup
  interfaces := ifs
  fields := fds
  methods := ms
  attributes := attrs
def plain (name : String) (sup : Option ClassId) : Class where
  name := name
  kind := .ordinary
  loader := none
  accessFlags := 33
  super := sup
  interfaces := #[]
  cf := none
  fields := #[]
  methods := #[]
  instanceTypes := #[]
  staticTypes := #[]
  resolved := #[]
  callSites := []
  init := .initialized
  statics := none
  mirror := none

def pool0 : Array CpInfo := pool [(5, u "<init>"), (0, u "()V"), (1, .class_ 10), (1, u "java/lang/Object")] 113

def k0m0 : Method := { name := "<init>", desc := "()V", sig := { parameters := [], returnType := none }, accessFlags := 1, code := none }
/-- java/lang/Object -/
def k0 : Class := { plain "java/lang/Object" none with
  accessFlags := 33
  interfaces := #[]
  cf := some (fileOf pool0 8 #[] #[{ accessFlags := 1, nameIndex := 5, descriptorIndex := 6, attributes := #[] }] 33 0 #[] #[])
  fields := #[]
  methods := #[k0m0]
  instanceTypes := #[]
  staticTypes := #[]
  resolved := Array.replicate 124 none
  statics := none }

def pool1 : Array CpInfo := pool [(2, .class_ 4), (1, u "java/lang/Object"), (0, u "<init>"), (0, u "()V"), (0, .integer 65535), (0, .methodref 9 10), (0, .class_ 11), (0, .nameAndType 12 13), (0, u "com/example/regular_role_reasoner/regularrolereasoner/text/TBoxReader"), (0, u "isWordCharacter"), (0, u "(C)Z"), (0, .class_ 15), (0, u "com/example/regular_role_reasoner/regularrolereasoner/text/TBoxReaderIsWordCharacterPinLaw"), (2, u "law"), (0, u "(I)Z")] 3

def k1m0 : Method := { name := "<init>", desc := "()V", sig := { parameters := [], returnType := none }, accessFlags := 2, code := none }
def k1c1 : Code := { maxStack := 2, maxLocals := 8, code := code, exceptionTable := #[], attributes := #[] }
def k1m1 : Method := { name := "law", desc := "(I)Z", sig := { parameters := [.int], returnType := some .boolean }, accessFlags := 9, code := some k1c1 }
/-- com/example/regular_role_reasoner/regularrolereasoner/text/TBoxReaderIsWordCharacterPinLaw -/
def k1 : Class := { plain "com/example/regular_role_reasoner/regularrolereasoner/text/TBoxReaderIsWordCharacterPinLaw" (some 0) with
  accessFlags := 49
  interfaces := #[]
  cf := some (fileOf pool1 14 #[] #[{ accessFlags := 2, nameIndex := 5, descriptorIndex := 6, attributes := #[] }, { accessFlags := 9, nameIndex := 18, descriptorIndex := 19, attributes := #[] }] 49 2 #[] #[])
  fields := #[]
  methods := #[k1m0, k1m1]
  instanceTypes := #[]
  staticTypes := #[]
  resolved := Array.replicate 23 none
  statics := none }

def pool2 : Array CpInfo := pool [(2, .class_ 4), (1, u "java/lang/Object"), (0, u "<init>"), (0, u "()V"), (7, .class_ 16), (1, u "com/example/regular_role_reasoner/regularrolereasoner/text/TBoxReader"), (12, u "RESERVED"), (0, u "Ljava/util/Set;"), (29, .class_ 61), (0, u "com/example/regular_role_reasoner/regularrolereasoner/text/TBoxReader$LineParser"), (28, .methodref 14 91), (0, .nameAndType 92 93), (0, u "isLetter"), (0, u "(C)Z"), (2, u "isWordCharacter"), (19, u "MAX_DEPTH"), (0, u "I"), (4, u "ONE_CHARACTER_SYMBOLS"), (0, u "Ljava/lang/String;"), (17, .class_ 142), (0, u "com/example/regular_role_reasoner/regularrolereasoner/text/TBoxReader$Token"), (0, .class_ 144), (0, u "com/example/regular_role_reasoner/regularrolereasoner/text/TBoxReader$Kind")] 21

def k2m0 : Method := { name := "<init>", desc := "()V", sig := { parameters := [], returnType := none }, accessFlags := 2, code := none }
def k2c1 : Code := { maxStack := 2, maxLocals := 1, code := prog_58_method_7_code, exceptionTable := #[], attributes := #[] }
def k2m1 : Method := { name := "isWordCharacter", desc := "(C)Z", sig := { parameters := [.char], returnType := some .boolean }, accessFlags := 8, code := some k2c1 }
def k2c2 : Code := { maxStack := 2, maxLocals := 1, code := prog_58_method_8_code, exceptionTable := #[], attributes := #[] }
def k2m2 : Method := { name := "isLetter", desc := "(C)Z", sig := { parameters := [.char], returnType := some .boolean }, accessFlags := 10, code := some k2c2 }
/-- com/example/regular_role_reasoner/regularrolereasoner/text/TBoxReader -/
def k2 : Class := { plain "com/example/regular_role_reasoner/regularrolereasoner/text/TBoxReader" (some 0) with
  accessFlags := 49
  interfaces := #[]
  cf := some (fileOf pool2 14 #[.nestMembers #[60, 141, 143]] #[{ accessFlags := 2, nameIndex := 5, descriptorIndex := 6, attributes := #[] }, { accessFlags := 8, nameIndex := 96, descriptorIndex := 93, attributes := #[] }, { accessFlags := 10, nameIndex := 92, descriptorIndex := 93, attributes := #[] }] 49 2 #[] #[{ accessFlags := 25, nameIndex := 116, descriptorIndex := 117, attributes := #[] }, { accessFlags := 26, nameIndex := 29, descriptorIndex := 30, attributes := #[] }, { accessFlags := 26, nameIndex := 122, descriptorIndex := 123, attributes := #[] }])
  fields := #[{ name := "MAX_DEPTH", type := .int, accessFlags := 25, slot := 0, constantValue := 0 }, { name := "RESERVED", type := (.object "java/util/Set"), accessFlags := 26, slot := 1, constantValue := 0 }, { name := "ONE_CHARACTER_SYMBOLS", type := (.object "java/lang/String"), accessFlags := 26, slot := 2, constantValue := 0 }]
  methods := #[k2m0, k2m1, k2m2]
  instanceTypes := #[]
  staticTypes := #[.int, (.object "java/util/Set"), (.object "java/lang/String")]
  resolved := Array.replicate 166 none
  statics := none }

def pool3 : Array CpInfo := pool [(1, u "java/lang/Cloneable"), (0, .class_ 1), (0, u "java/lang/Object"), (0, .class_ 3)] 3

/-- java/lang/Cloneable -/
def k3 : Class := { plain "java/lang/Cloneable" (some 0) with
  accessFlags := 1537
  interfaces := #[]
  cf := some (fileOf pool3 2 #[] #[] 1537 4 #[] #[])
  fields := #[]
  methods := #[]
  instanceTypes := #[]
  staticTypes := #[]
  resolved := Array.replicate 8 none
  statics := none }

def pool4 : Array CpInfo := pool [(1, u "java/io/Serializable"), (0, .class_ 1), (0, u "java/lang/Object"), (0, .class_ 3)] 3

/-- java/io/Serializable -/
def k4 : Class := { plain "java/io/Serializable" (some 0) with
  accessFlags := 1537
  interfaces := #[]
  cf := some (fileOf pool4 2 #[] #[] 1537 4 #[] #[])
  fields := #[]
  methods := #[]
  instanceTypes := #[]
  staticTypes := #[]
  resolved := Array.replicate 8 none
  statics := none }

/-- the primitive byte -/
def k5 : Class := { plain "byte" none with kind := .primitive 'B', accessFlags := 0x411 }
/-- [B -/
def k6 : Class := { plain "[B" (some 0) with kind := .array 5 .byte, interfaces := #[3, 4], accessFlags := 1041 }

/-- the primitive int -/
def k7 : Class := { plain "int" none with kind := .primitive 'I', accessFlags := 0x411 }
/-- [I -/
def k8 : Class := { plain "[I" (some 0) with kind := .array 7 .int, interfaces := #[3, 4], accessFlags := 1041 }

def heap : Heap := #[]
def classes : Array Class := #[k0, k1, k2, k3, k4, k5, k6, k7, k8]
def interned : List (Array UInt16 × Addr) := []
def slotsUsed : Nat := 0
def theMethod : MethodId := ⟨1, 1⟩
def args0 : Array Value := #[.int 5]
def aboutOver (below : List Frame) : State where
  vm := { classes := classes, interned := interned.toArray }
  heap := heap
  slotsUsed := slotsUsed
  threads := #[{ frames := .invoking theMethod args0 :: below }]
def below0 : List Frame := [.native { method := ⟨0, 0⟩, args := #[] }]
def about1 : State := aboutOver below0
def p0 : Program := .bare "" "" ""
def e0 : Env := launch0.env 0 0 0
theorem w_frames : about1.frames = Frame.invoking theMethod args0 :: below0 := rfl
set_option maxRecDepth 65536 in
theorem w_args : argsFit about1.vm theMethod args0 = true := by decide +kernel
set_option maxRecDepth 65536 in
theorem w_heap : heapFits about1 = true := by decide +kernel
set_option maxRecDepth 65536 in
theorem w_runnable : about1.curStatus? = some .runnable := by decide +kernel
set_option maxRecDepth 65536 in
theorem w_alone : about1.alone = true := by decide +kernel
set_option maxRecDepth 65536 in
theorem w_named : about1.methodNamed? x = some theMethod := by decide +kernel
set_option maxRecDepth 65536 in
theorem w_hears : about1.hears theMethod below0 = true := by decide +kernel
set_option maxRecDepth 65536 in
theorem w_ripe : about1.ripe theMethod args0 below0 = true := by decide +kernel
theorem w_running : about1.status = .running := rfl
set_option maxRecDepth 65536 in
theorem w_room : about1.hasRoom e0.platform room_1 = true :=
  launch0.hasRoom_least _ room_1 (by decide +kernel) (by decide +kernel) (by decide +kernel) (by decide +kernel) (by decide +kernel) (by decide +kernel)
theorem allAtoms_all (ts : List Jvm.Cond) (a : Array Jvm.Value) (st : Jvm.State) : (allAtoms ts).before a st = ts.all (fun c => c.before a st) := by
  induction ts with
  | nil => rfl
  | cons c t ih =>
    show (Jvm.Cond.and c (allAtoms t)).before a st = _
    rw [Jvm.Cond.before_and, ih, List.all_cons]
def words1 : List Jvm.Cond := Jvm.Cond.code x code maxLocals ret :: tables_1
/-- a 'code' word, met by the world's own term for the bytes: nothing is compared byte by byte -/
theorem code_word {y : MethodName} {bytes : ByteArray} {mx : Nat} {rt : Option FieldType} {a : Array Value} {s : State} {m : MethodId} {meth : Method} {c : Code} (h1 : s.methodNamed? y = some m) (h2 : s.vm.method? m = some meth) (h3 : meth.code = some c) (h4 : c.code = bytes)
    (h5 : (c.maxLocals == mx && c.exceptionTable.isEmpty && decide (c.maxStack ≤ mostOperands) && decide (meth.sig.returnType = rt) && !meth.locks && decide (parseMethodDescriptor y.desc = some meth.sig)) = true) : (Jvm.Cond.code y bytes mx rt).before a s = true := by
  simp only [Bool.and_eq_true, beq_iff_eq, Bool.not_eq_true', decide_eq_true_eq] at h5
  obtain ⟨⟨⟨⟨⟨g1, g2⟩, g3⟩, g4⟩, g5⟩, g6⟩ := h5
  simp [Cond.before, Cond.holds, Cond.value, h1, h2, h3, h4, g1, g2, g3, g4, g5, g6]
def isCode : Jvm.Cond → Bool
  | .code _ _ _ _ => true
  | _ => false
theorem all_split {L : List Jvm.Cond} {P : Jvm.Cond → Bool} (h1 : L.all (fun c => isCode c || P c) = true) (h2 : ∀ c ∈ L.filter isCode, P c = true) : L.all P = true := by
  refine List.all_eq_true.mpr fun c hc => ?_
  have h := List.all_eq_true.mp h1 c hc
  rcases Bool.eq_false_or_eq_true (isCode c) with hi | hi
  · exact h2 c (List.mem_filter.mpr ⟨hc, hi⟩)
  · simpa [hi] using h
set_option maxRecDepth 65536 in
theorem w_c0 : (Jvm.Cond.code x code maxLocals ret).before args0 about1 = true := code_word (m := ⟨1, 1⟩) (meth := k1m1) (c := k1c1) (by decide +kernel) rfl rfl rfl (by decide +kernel)
set_option maxRecDepth 65536 in
theorem w_c1 : (Jvm.Cond.code ({ cls := "com/example/regular_role_reasoner/regularrolereasoner/text/TBoxReader", name := "isWordCharacter", desc := "(C)Z" } : Jvm.MethodName) prog_58_method_7_code (1 : Nat) (Option.some Jvm.ClassFile.FieldType.boolean)).before args0 about1 = true := code_word (m := ⟨2, 1⟩) (meth := k2m1) (c := k2c1) (by decide +kernel) rfl rfl rfl (by decide +kernel)
set_option maxRecDepth 65536 in
theorem w_c2 : (Jvm.Cond.code ({ cls := "com/example/regular_role_reasoner/regularrolereasoner/text/TBoxReader", name := "isLetter", desc := "(C)Z" } : Jvm.MethodName) prog_58_method_8_code (1 : Nat) (Option.some Jvm.ClassFile.FieldType.boolean)).before args0 about1 = true := code_word (m := ⟨2, 2⟩) (meth := k2m2) (c := k2c2) (by decide +kernel) rfl rfl rfl (by decide +kernel)
def codes1 : List Jvm.Cond := [Jvm.Cond.code x code maxLocals ret, Jvm.Cond.code ({ cls := "com/example/regular_role_reasoner/regularrolereasoner/text/TBoxReader", name := "isWordCharacter", desc := "(C)Z" } : Jvm.MethodName) prog_58_method_7_code (1 : Nat) (Option.some Jvm.ClassFile.FieldType.boolean), Jvm.Cond.code ({ cls := "com/example/regular_role_reasoner/regularrolereasoner/text/TBoxReader", name := "isLetter", desc := "(C)Z" } : Jvm.MethodName) prog_58_method_8_code (1 : Nat) (Option.some Jvm.ClassFile.FieldType.boolean)]
set_option maxRecDepth 65536 in
theorem codes_eq : words1.filter isCode = codes1 := rfl
theorem w_codes : ∀ c ∈ words1.filter isCode, c.before args0 about1 = true := by
  rw [codes_eq]
  intro c hc
  simp only [codes1, List.mem_cons, List.not_mem_nil, or_false] at hc
  rcases hc with rfl | rfl | rfl
  · exact w_c0
  · exact w_c1
  · exact w_c2
set_option maxRecDepth 65536 in
theorem w_t1 : words1.all (fun c => isCode c || c.before args0 about1) = true := by decide +kernel
theorem w_tables : (allAtoms (Jvm.Cond.code x code maxLocals ret :: tables_1)).before args0 about1 = true := by
  rw [allAtoms_all]
  show words1.all (fun c => c.before args0 about1) = true
  refine all_split ?_ w_codes
  rw [w_t1]
set_option maxRecDepth 65536 in
theorem w_case : (Jvm.Cond.and given_1 narrow_1).before args0 about1 = true := by decide +kernel
theorem w_applies : (headSpec (Jvm.Cond.code x code maxLocals ret :: tables_1) room_1).applies x e0.platform about1 = true :=
  (Spec.applies_iff w_frames).mpr ⟨w_running, w_runnable, w_alone, w_named, w_hears, w_ripe, w_room, w_tables⟩
theorem atStart : AtStart classFile x code maxLocals ret World_1 tables_1 room_1 Calls_1 rest_1 Pre_1 launch0 p0 e0 about1 theMethod args0 below0 :=
  ⟨lists_1, trivial, launch0.admits_env _ _ _, launch0.least_env, fairChoices_fair.cas, fairChoices_fair.clock, w_frames, w_args, w_heap, w_applies, trivial, trivial, w_case⟩
end start1
theorem witness_1 : WitnessClaimed_1 := ⟨start1.p0, start1.e0, start1.about1, start1.theMethod, start1.args0, start1.below0, start1.atStart⟩
end Jvm.Pilot.@@N@@
