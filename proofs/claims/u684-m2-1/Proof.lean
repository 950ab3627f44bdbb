import JvmDerived
import JvmDerived.Pilot.@@N@@Statement
import JvmDerived.Pilot.@@N@@Code
set_option linter.unusedVariables false
set_option linter.unusedSimpArgs false
namespace Jvm.RoadKit
open Sem ClassFile Op Lib Jvm.Stand Jvm.Free Jvm.LawKit
section New
variable {p : Program} {l : Launch} {e : Env} {R : Room} {s : State} {m : MethodId} {args : Array Value} {below : List Frame} {meth : Method} {c : Code} {T : State} {locs : List Loc} {cells slots : Nat}
theorem retI (X : Stand p l e R s m args below meth c T locs cells slots) (hx : p.tables.exec = Jvm.exec) {pc : Nat} {Ls : Array Slot} {z : Int32} {rest : List Value} (hret : meth.sig.returnType = some .int) (hd : decode c.code pc = .ok (.ireturn, 1)) {fs : List Frame}
    (hl : ∀ (f : JFrame) (acts : List Action), f.method = m → f.locked = none → f.entered = [] → (doReturn e (T.setTop f) acts (some (.int z))).1 = T.setFrames fs) : Steps p.tables e below (T.setTop (mkF m pc Ls (.int z :: rest))) (T.setFrames fs) := by
  have hm' : T.vm.method? m = some meth := X.method'
  have hn : narrow .int (.int z) = .int z := rfl
  show Steps p.tables e below (T.setTop { method := m, pc := pc, locals := Ls, stack := _ :: rest, locked := none }) _
  jvm_step X.here [X.here.top, hx, hd, hm', hret, hn]
  first | (intro acts; rw [hl _ acts rfl rfl rfl]) | rw [hl _ _ rfl rfl rfl]
  exact Steps.refl _
end New
end Jvm.RoadKit
namespace Jvm.Pilot.@@N@@
open Jvm Jvm.ClassFile Sem Op Lib Jvm.Free Jvm.Stand Jvm.LawKit Jvm.RoadKit Bundle Jvm.Pilot.@@N@@.Jvm.D
/-- what is left of a run from the state A: it comes to an end, returns, and leaves what Q says -/
def OwnG (tb : Tables) (e : Env) (below : List Frame) (s : State) (R : Room) (Q : Option Value → Heap → List Loc → Prop) (A : State) : Prop :=
  ∃ s₂ o, Steps tb e below A s₂ ∧ s₂.status = .running ∧ Ended s₂ below o ∧ ∃ v L, o = .returned v ∧ Q v s₂.heap L ∧ FrameEnd s o s₂ L R.cells R.slots
theorem OwnG.go {tb : Tables} {e : Env} {below : List Frame} {s : State} {R : Room} {Q : Option Value → Heap → List Loc → Prop} {A B : State} (st : ∀ t, Steps tb e below A t → Steps tb e below B t) (h : OwnG tb e below s R Q A) : OwnG tb e below s R Q B := by
  obtain ⟨s₂, o, h1, h2⟩ := h
  exact ⟨s₂, o, st _ h1, h2⟩
theorem own_stand {p : Program} {l : Launch} {e : Env} {R : Room} {s : State} {m : MethodId} {args : Array Value} {below : List Frame} {meth : Method} {c : Code} {T : State} {locs : List Loc} {k n k' n' : Nat} (X : Stand p l e R s m args below meth c T locs k n) (h1 : k ≤ k') (h2 : n ≤ n') : Stand p l e R s m args below meth c T locs k' n' :=
  { X with same := X.same.mono h1 h2 }
/-- the callee of the law, as the sheet's first word names it -/
def own_y1 : MethodName := match tables_1 with
  | Jvm.Cond.methodLink _ _ y :: _ => y
  | _ => x
/-- what isFlowIndicator answers -/
def own_fl (x : Int32) : Int32 := if x = 44 then 1 else if x = 91 then 1 else if x = 93 then 1 else if x = 123 then 1 else if x = 125 then 1 else 0
/-- what the law's reference answers -/
def own_rf (x : Int32) : Int32 := if x = 44 then 1 else if (x ||| (32 : Int32)) = 123 then 1 else if (x ||| (32 : Int32)) = 125 then 1 else 0
theorem own_or (x : Int32) : x = (x ||| 32) ∨ x = ((x ||| 32) ^^^ 32) := by
  by_cases h : x.toBitVec.getLsbD 5 = true
  · left
    apply Int32.toBitVec_inj.mp
    rw [Int32.toBitVec_or]
    apply BitVec.eq_of_getLsbD_eq
    intro i hi
    rw [BitVec.getLsbD_or]
    by_cases h5 : i = 5
    · subst h5; rw [h]; rfl
    · have : (32 : Int32).toBitVec.getLsbD i = false := by
        show (32#32).getLsbD i = false
        rw [show (32#32) = BitVec.twoPow 32 5 from by decide, BitVec.getLsbD_twoPow]
        simp; omega
      rw [this, Bool.or_false]
  · right
    apply Int32.toBitVec_inj.mp
    rw [Int32.toBitVec_xor, Int32.toBitVec_or]
    apply BitVec.eq_of_getLsbD_eq
    intro i hi
    rw [BitVec.getLsbD_xor, BitVec.getLsbD_or]
    by_cases h5 : i = 5
    · subst h5
      have : x.toBitVec.getLsbD 5 = false := by simpa using h
      rw [this]; rfl
    · have : (32 : Int32).toBitVec.getLsbD i = false := by
        show (32#32).getLsbD i = false
        rw [show (32#32) = BitVec.twoPow 32 5 from by decide, BitVec.getLsbD_twoPow]
        simp; omega
      rw [this, Bool.or_false, Bool.xor_false]
theorem own_or123 (x : Int32) : (x ||| 32) = 123 ↔ x = 91 ∨ x = 123 := by
  constructor
  · intro h
    rcases own_or x with q | q
    · right; rw [q, h]
    · left; rw [q, h]; decide
  · rintro (rfl | rfl) <;> decide
theorem own_or125 (x : Int32) : (x ||| 32) = 125 ↔ x = 93 ∨ x = 125 := by
  constructor
  · intro h
    rcases own_or x with q | q
    · right; rw [q, h]
    · left; rw [q, h]; decide
  · rintro (rfl | rfl) <;> decide
theorem own_law (x : Int32) : own_fl x = own_rf x := by
  unfold own_fl own_rf
  simp only [own_or123, own_or125]
  by_cases a : x = 44
  · simp [a]
  · by_cases b : x = 91
    · simp [b]
    · by_cases c : x = 93
      · simp [c]
      · by_cases d : x = 123
        · simp [d]
        · by_cases e : x = 125
          · simp [e]
          · simp [a, b, c, d, e]
def own_ind (c : Int32) : Prop := c = 44 ∨ c = 91 ∨ c = 93 ∨ c = 123 ∨ c = 125
theorem own_hit {c : Int32} (h : own_ind c) : own_fl c = 1 := by rcases h with rfl | rfl | rfl | rfl | rfl <;> decide
theorem own_n1 {c : Int32} (h : own_ind c) : own_fl (c - (1 : Int32)) = 0 := by rcases h with rfl | rfl | rfl | rfl | rfl <;> decide
theorem own_n2 {c : Int32} (h : own_ind c) : own_fl (c + (1 : Int32)) = 0 := by rcases h with rfl | rfl | rfl | rfl | rfl <;> decide
theorem own_f1 {c : Int32} (h : own_ind c) : own_fl (c + (65536 : Int32)) = 0 := by rcases h with rfl | rfl | rfl | rfl | rfl <;> decide
theorem own_f2 {c : Int32} (h : own_ind c) : own_fl (c - (65536 : Int32)) = 0 := by rcases h with rfl | rfl | rfl | rfl | rfl <;> decide
theorem own_rem5 (r : Int32) : ((r &&& (2147483647 : Int32)) % (5 : Int32)) = 0 ∨ ((r &&& (2147483647 : Int32)) % (5 : Int32)) = 1 ∨ ((r &&& (2147483647 : Int32)) % (5 : Int32)) = 2 ∨ ((r &&& (2147483647 : Int32)) % (5 : Int32)) = 3 ∨ ((r &&& (2147483647 : Int32)) % (5 : Int32)) = 4 := by
  have h0 : 0 ≤ (r &&& (2147483647 : Int32)).toInt := by
    rw [← Int32.toInt_toBitVec, Int32.toBitVec_and]
    have : (r.toBitVec &&& (2147483647 : Int32).toBitVec).msb = false := by
      rw [BitVec.msb_and, show (2147483647 : Int32).toBitVec.msb = false from by decide, Bool.and_false]
    rw [BitVec.toInt_eq_toNat_of_msb this]
    omega
  have h1 : ((r &&& (2147483647 : Int32)) % (5 : Int32)).toInt = (r &&& (2147483647 : Int32)).toInt % 5 := by
    rw [Int32.toInt_mod, show (5 : Int32).toInt = 5 from rfl, Int.tmod_eq_emod_of_nonneg h0]
  simp only [← Int32.toInt_inj, h1, show (0 : Int32).toInt = 0 from rfl, show (1 : Int32).toInt = 1 from rfl, show (2 : Int32).toInt = 2 from rfl, show (3 : Int32).toInt = 3 from rfl, show (4 : Int32).toInt = 4 from rfl]
  omega
theorem pd_1 : parseMethodDescriptor "(I)Z" = some ⟨[.int], some .boolean⟩ := by decide +kernel
theorem pd_2 : parseMethodDescriptor "(I)Z" = some ⟨[.int], some .boolean⟩ := by decide +kernel
theorem d1_0 : decode prog_58_method_7_code 0 = .ok (.iload_n 0, 1) := by decide +kernel
theorem d1_1 : decode prog_58_method_7_code 1 = .ok (.bipush 44, 2) := by decide +kernel
theorem d1_3 : decode prog_58_method_7_code 3 = .ok (.if_icmp .eq 27, 3) := by decide +kernel
theorem d1_6 : decode prog_58_method_7_code 6 = .ok (.iload_n 0, 1) := by decide +kernel
theorem d1_7 : decode prog_58_method_7_code 7 = .ok (.bipush 91, 2) := by decide +kernel
theorem d1_9 : decode prog_58_method_7_code 9 = .ok (.if_icmp .eq 21, 3) := by decide +kernel
theorem d1_12 : decode prog_58_method_7_code 12 = .ok (.iload_n 0, 1) := by decide +kernel
theorem d1_13 : decode prog_58_method_7_code 13 = .ok (.bipush 93, 2) := by decide +kernel
theorem d1_15 : decode prog_58_method_7_code 15 = .ok (.if_icmp .eq 15, 3) := by decide +kernel
theorem d1_18 : decode prog_58_method_7_code 18 = .ok (.iload_n 0, 1) := by decide +kernel
theorem d1_19 : decode prog_58_method_7_code 19 = .ok (.bipush 123, 2) := by decide +kernel
theorem d1_21 : decode prog_58_method_7_code 21 = .ok (.if_icmp .eq 9, 3) := by decide +kernel
theorem d1_24 : decode prog_58_method_7_code 24 = .ok (.iload_n 0, 1) := by decide +kernel
theorem d1_25 : decode prog_58_method_7_code 25 = .ok (.bipush 125, 2) := by decide +kernel
theorem d1_27 : decode prog_58_method_7_code 27 = .ok (.if_icmp .ne 7, 3) := by decide +kernel
theorem d1_30 : decode prog_58_method_7_code 30 = .ok (.iconst 1, 1) := by decide +kernel
theorem d1_31 : decode prog_58_method_7_code 31 = .ok (.goto 4, 3) := by decide +kernel
theorem d1_34 : decode prog_58_method_7_code 34 = .ok (.iconst 0, 1) := by decide +kernel
theorem d1_35 : decode prog_58_method_7_code 35 = .ok (.ireturn, 1) := by decide +kernel
theorem pn_1 : plainName own_y1.cls = true := by first | (simp [plainName, overriddenIn]; done) | decide +kernel
theorem ef_1 (m : MethodId) (x0 : Int32) : entryFrame m #[(.int x0)] 1 = mkF m 0 #[.val (.int x0)] [] := by first | (simp [entryFrame, mkF, argsToLocals, Value.category]; done) | rfl
def Q1 (Z : State) (p1 : Int32) (h0 : Heap) (n0 : Nat) (v : Option Value) (h : Heap) (L : List Loc) : Prop := v = some (.int (own_fl p1)) ∧ Fr n0 L ∧ h = h0
set_option maxRecDepth 65536 in
set_option maxHeartbeats 40000000 in
theorem rm1 (l : Launch) (Z : State) (a0 : Array Value) (hw : ∀ d ∈ tables_1, d.before a0 Z = true) (ws : List Jvm.Cond) (p1 : Int32) (h0 : Heap) (n0 : Nat) (Z0 : n0 ≤ h0.size)  :
    MetFree l own_y1 (head1 (Jvm.Cond.code own_y1 prog_58_method_7_code 1 (some .boolean) :: ws) ({ frames := 0, cells := 0, slots := 0, locals := 0 } : Room)) (fun a U => a = #[(.int p1)] ∧ Z.Warmed39 U.vm ∧ U.heap = h0) (fun _ _ _ _ _ => True) (fun _ U o U' => ∃ v L, o = .returned v ∧ (Q1 Z p1 h0 n0) v U'.heap L ∧ FrameEnd U o U' L ({ frames := 0, cells := 0, slots := 0, locals := 0 } : Room).cells ({ frames := 0, cells := 0, slots := 0, locals := 0 } : Room).slots) := by
  refine MetFree.of_bodySF (plainFor_of_name pn_1) hisR ?_
  intro p e s m args below meth c s₁ Bd hml0 hP hK
  obtain ⟨rfl, hZ, hh⟩ := hP
  have hx := Bd.exec
  have hby := Bd.bytes
  have hml : c.maxLocals = 1 := hml0
  have hown : s.vm.findClass own_y1.cls = some m.cls := (findClass_of_methodNamed Bd.named :)
  have hnm := (name_of_methodNamed Bd.named Bd.method).1
  have X0 : Stand p l e ({ frames := 0, cells := 0, slots := 0, locals := 0 } : Room) s m #[(.int p1)] below meth c s₁ [] 0 0 := Stand.of_body Bd
  have e0 : s₁.heap = h0 := by rw [← hh, Bd.state]; rfl
  have N0 := Fr.nil n0
  show OwnG p.tables e below s ({ frames := 0, cells := 0, slots := 0, locals := 0 } : Room) (Q1 Z p1 h0 n0) (s₁.setTop (entryFrame m #[(.int p1)] 1))
  refine OwnG.go (fun tz kz => castTop (ef_1 m p1) kz) ?_
  show OwnG _ _ _ _ _ _ (s₁.setTop (mkF m 0 #[.val (.int p1)] []))
  refine OwnG.go (fun _ kz => XS.iloadN X0.here hx rfl (hb hby d1_0) rfl kz) ?_
  show OwnG _ _ _ _ _ _ (s₁.setTop (mkF m 1 #[.val (.int p1)] [(.int p1)]))
  refine OwnG.go (fun _ kz => XS.bipush X0.here hx rfl (hb hby d1_1) kz) ?_
  show OwnG _ _ _ _ _ _ (s₁.setTop (mkF m 3 #[.val (.int p1)] [(.int (44 : Int32)), (.int p1)]))
  by_cases c0 : p1 = (44 : Int32)
  · have _u := ()
    refine OwnG.go (fun _ kz => XS.icmpYes X0.here hx rfl (pc0 := 3) (pc' := 30) rfl (hb hby d1_3) rfl (teq c0).1 (by decide) (by decide) kz) ?_
    show OwnG _ _ _ _ _ _ (s₁.setTop (mkF m 30 #[.val (.int p1)] []))
    refine OwnG.go (fun _ kz => XS.iconst X0.here hx rfl (hb hby d1_30) kz) ?_
    show OwnG _ _ _ _ _ _ (s₁.setTop (mkF m 31 #[.val (.int p1)] [(.int (1 : Int32))]))
    refine OwnG.go (fun _ kz => XS.goto X0.here hx rfl (pc0 := 31) (pc' := 35) rfl (hb hby d1_31) (by decide) (by decide) kz) ?_
    show OwnG _ _ _ _ _ _ (s₁.setTop (mkF m 35 #[.val (.int p1)] [(.int (1 : Int32))]))
    obtain ⟨fs, hr, hrun, hended, hW, hsame⟩ := X0.leave (v := some (.int (1 : Int32))) (fun h => by rw [Bd.returns] at h; cases h)
    refine ⟨_, _, retN X0 hx (t := .boolean) Bd.returns (by simp) (hb hby d1_35) hr, hrun, hended, _, _, rfl, ?_, ⟨_, rfl⟩, hW, hsame.mono (by decide) (by decide)⟩
    show (Q1 Z p1 h0 n0) _ s₁.heap _
    rw [e0]
    exact ⟨by simp [own_fl, c0], N0, rfl⟩
  · have _u := ()
    refine OwnG.go (fun _ kz => XS.icmpNo X0.here hx rfl (hb hby d1_3) rfl (feq c0).1 kz) ?_
    show OwnG _ _ _ _ _ _ (s₁.setTop (mkF m 6 #[.val (.int p1)] []))
    refine OwnG.go (fun _ kz => XS.iloadN X0.here hx rfl (hb hby d1_6) rfl kz) ?_
    show OwnG _ _ _ _ _ _ (s₁.setTop (mkF m 7 #[.val (.int p1)] [(.int p1)]))
    refine OwnG.go (fun _ kz => XS.bipush X0.here hx rfl (hb hby d1_7) kz) ?_
    show OwnG _ _ _ _ _ _ (s₁.setTop (mkF m 9 #[.val (.int p1)] [(.int (91 : Int32)), (.int p1)]))
    by_cases c1 : p1 = (91 : Int32)
    · have _u := ()
      refine OwnG.go (fun _ kz => XS.icmpYes X0.here hx rfl (pc0 := 9) (pc' := 30) rfl (hb hby d1_9) rfl (teq c1).1 (by decide) (by decide) kz) ?_
      show OwnG _ _ _ _ _ _ (s₁.setTop (mkF m 30 #[.val (.int p1)] []))
      refine OwnG.go (fun _ kz => XS.iconst X0.here hx rfl (hb hby d1_30) kz) ?_
      show OwnG _ _ _ _ _ _ (s₁.setTop (mkF m 31 #[.val (.int p1)] [(.int (1 : Int32))]))
      refine OwnG.go (fun _ kz => XS.goto X0.here hx rfl (pc0 := 31) (pc' := 35) rfl (hb hby d1_31) (by decide) (by decide) kz) ?_
      show OwnG _ _ _ _ _ _ (s₁.setTop (mkF m 35 #[.val (.int p1)] [(.int (1 : Int32))]))
      obtain ⟨fs, hr, hrun, hended, hW, hsame⟩ := X0.leave (v := some (.int (1 : Int32))) (fun h => by rw [Bd.returns] at h; cases h)
      refine ⟨_, _, retN X0 hx (t := .boolean) Bd.returns (by simp) (hb hby d1_35) hr, hrun, hended, _, _, rfl, ?_, ⟨_, rfl⟩, hW, hsame.mono (by decide) (by decide)⟩
      show (Q1 Z p1 h0 n0) _ s₁.heap _
      rw [e0]
      exact ⟨by simp [own_fl, c0, c1], N0, rfl⟩
    · have _u := ()
      refine OwnG.go (fun _ kz => XS.icmpNo X0.here hx rfl (hb hby d1_9) rfl (feq c1).1 kz) ?_
      show OwnG _ _ _ _ _ _ (s₁.setTop (mkF m 12 #[.val (.int p1)] []))
      refine OwnG.go (fun _ kz => XS.iloadN X0.here hx rfl (hb hby d1_12) rfl kz) ?_
      show OwnG _ _ _ _ _ _ (s₁.setTop (mkF m 13 #[.val (.int p1)] [(.int p1)]))
      refine OwnG.go (fun _ kz => XS.bipush X0.here hx rfl (hb hby d1_13) kz) ?_
      show OwnG _ _ _ _ _ _ (s₁.setTop (mkF m 15 #[.val (.int p1)] [(.int (93 : Int32)), (.int p1)]))
      by_cases c2 : p1 = (93 : Int32)
      · have _u := ()
        refine OwnG.go (fun _ kz => XS.icmpYes X0.here hx rfl (pc0 := 15) (pc' := 30) rfl (hb hby d1_15) rfl (teq c2).1 (by decide) (by decide) kz) ?_
        show OwnG _ _ _ _ _ _ (s₁.setTop (mkF m 30 #[.val (.int p1)] []))
        refine OwnG.go (fun _ kz => XS.iconst X0.here hx rfl (hb hby d1_30) kz) ?_
        show OwnG _ _ _ _ _ _ (s₁.setTop (mkF m 31 #[.val (.int p1)] [(.int (1 : Int32))]))
        refine OwnG.go (fun _ kz => XS.goto X0.here hx rfl (pc0 := 31) (pc' := 35) rfl (hb hby d1_31) (by decide) (by decide) kz) ?_
        show OwnG _ _ _ _ _ _ (s₁.setTop (mkF m 35 #[.val (.int p1)] [(.int (1 : Int32))]))
        obtain ⟨fs, hr, hrun, hended, hW, hsame⟩ := X0.leave (v := some (.int (1 : Int32))) (fun h => by rw [Bd.returns] at h; cases h)
        refine ⟨_, _, retN X0 hx (t := .boolean) Bd.returns (by simp) (hb hby d1_35) hr, hrun, hended, _, _, rfl, ?_, ⟨_, rfl⟩, hW, hsame.mono (by decide) (by decide)⟩
        show (Q1 Z p1 h0 n0) _ s₁.heap _
        rw [e0]
        exact ⟨by simp [own_fl, c0, c1, c2], N0, rfl⟩
      · have _u := ()
        refine OwnG.go (fun _ kz => XS.icmpNo X0.here hx rfl (hb hby d1_15) rfl (feq c2).1 kz) ?_
        show OwnG _ _ _ _ _ _ (s₁.setTop (mkF m 18 #[.val (.int p1)] []))
        refine OwnG.go (fun _ kz => XS.iloadN X0.here hx rfl (hb hby d1_18) rfl kz) ?_
        show OwnG _ _ _ _ _ _ (s₁.setTop (mkF m 19 #[.val (.int p1)] [(.int p1)]))
        refine OwnG.go (fun _ kz => XS.bipush X0.here hx rfl (hb hby d1_19) kz) ?_
        show OwnG _ _ _ _ _ _ (s₁.setTop (mkF m 21 #[.val (.int p1)] [(.int (123 : Int32)), (.int p1)]))
        by_cases c3 : p1 = (123 : Int32)
        · have _u := ()
          refine OwnG.go (fun _ kz => XS.icmpYes X0.here hx rfl (pc0 := 21) (pc' := 30) rfl (hb hby d1_21) rfl (teq c3).1 (by decide) (by decide) kz) ?_
          show OwnG _ _ _ _ _ _ (s₁.setTop (mkF m 30 #[.val (.int p1)] []))
          refine OwnG.go (fun _ kz => XS.iconst X0.here hx rfl (hb hby d1_30) kz) ?_
          show OwnG _ _ _ _ _ _ (s₁.setTop (mkF m 31 #[.val (.int p1)] [(.int (1 : Int32))]))
          refine OwnG.go (fun _ kz => XS.goto X0.here hx rfl (pc0 := 31) (pc' := 35) rfl (hb hby d1_31) (by decide) (by decide) kz) ?_
          show OwnG _ _ _ _ _ _ (s₁.setTop (mkF m 35 #[.val (.int p1)] [(.int (1 : Int32))]))
          obtain ⟨fs, hr, hrun, hended, hW, hsame⟩ := X0.leave (v := some (.int (1 : Int32))) (fun h => by rw [Bd.returns] at h; cases h)
          refine ⟨_, _, retN X0 hx (t := .boolean) Bd.returns (by simp) (hb hby d1_35) hr, hrun, hended, _, _, rfl, ?_, ⟨_, rfl⟩, hW, hsame.mono (by decide) (by decide)⟩
          show (Q1 Z p1 h0 n0) _ s₁.heap _
          rw [e0]
          exact ⟨by simp [own_fl, c0, c1, c2, c3], N0, rfl⟩
        · have _u := ()
          refine OwnG.go (fun _ kz => XS.icmpNo X0.here hx rfl (hb hby d1_21) rfl (feq c3).1 kz) ?_
          show OwnG _ _ _ _ _ _ (s₁.setTop (mkF m 24 #[.val (.int p1)] []))
          refine OwnG.go (fun _ kz => XS.iloadN X0.here hx rfl (hb hby d1_24) rfl kz) ?_
          show OwnG _ _ _ _ _ _ (s₁.setTop (mkF m 25 #[.val (.int p1)] [(.int p1)]))
          refine OwnG.go (fun _ kz => XS.bipush X0.here hx rfl (hb hby d1_25) kz) ?_
          show OwnG _ _ _ _ _ _ (s₁.setTop (mkF m 27 #[.val (.int p1)] [(.int (125 : Int32)), (.int p1)]))
          by_cases c4 : p1 = (125 : Int32)
          · have _u := ()
            refine OwnG.go (fun _ kz => XS.icmpNo X0.here hx rfl (hb hby d1_27) rfl (teq c4).2 kz) ?_
            show OwnG _ _ _ _ _ _ (s₁.setTop (mkF m 30 #[.val (.int p1)] []))
            refine OwnG.go (fun _ kz => XS.iconst X0.here hx rfl (hb hby d1_30) kz) ?_
            show OwnG _ _ _ _ _ _ (s₁.setTop (mkF m 31 #[.val (.int p1)] [(.int (1 : Int32))]))
            refine OwnG.go (fun _ kz => XS.goto X0.here hx rfl (pc0 := 31) (pc' := 35) rfl (hb hby d1_31) (by decide) (by decide) kz) ?_
            show OwnG _ _ _ _ _ _ (s₁.setTop (mkF m 35 #[.val (.int p1)] [(.int (1 : Int32))]))
            obtain ⟨fs, hr, hrun, hended, hW, hsame⟩ := X0.leave (v := some (.int (1 : Int32))) (fun h => by rw [Bd.returns] at h; cases h)
            refine ⟨_, _, retN X0 hx (t := .boolean) Bd.returns (by simp) (hb hby d1_35) hr, hrun, hended, _, _, rfl, ?_, ⟨_, rfl⟩, hW, hsame.mono (by decide) (by decide)⟩
            show (Q1 Z p1 h0 n0) _ s₁.heap _
            rw [e0]
            exact ⟨by simp [own_fl, c0, c1, c2, c3, c4], N0, rfl⟩
          · have _u := ()
            refine OwnG.go (fun _ kz => XS.icmpYes X0.here hx rfl (pc0 := 27) (pc' := 34) rfl (hb hby d1_27) rfl (feq c4).2 (by decide) (by decide) kz) ?_
            show OwnG _ _ _ _ _ _ (s₁.setTop (mkF m 34 #[.val (.int p1)] []))
            refine OwnG.go (fun _ kz => XS.iconst X0.here hx rfl (hb hby d1_34) kz) ?_
            show OwnG _ _ _ _ _ _ (s₁.setTop (mkF m 35 #[.val (.int p1)] [(.int (0 : Int32))]))
            obtain ⟨fs, hr, hrun, hended, hW, hsame⟩ := X0.leave (v := some (.int (0 : Int32))) (fun h => by rw [Bd.returns] at h; cases h)
            refine ⟨_, _, retN X0 hx (t := .boolean) Bd.returns (by simp) (hb hby d1_35) hr, hrun, hended, _, _, rfl, ?_, ⟨_, rfl⟩, hW, hsame.mono (by decide) (by decide)⟩
            show (Q1 Z p1 h0 n0) _ s₁.heap _
            rw [e0]
            exact ⟨by simp [own_fl, c0, c1, c2, c3, c4], N0, rfl⟩
theorem d2_0 : decode method_3_code 0 = .ok (.iload_n 0, 1) := by decide +kernel
theorem d2_1 : decode method_3_code 1 = .ok (.bipush 32, 2) := by decide +kernel
theorem d2_3 : decode method_3_code 3 = .ok (.ior, 1) := by decide +kernel
theorem d2_4 : decode method_3_code 4 = .ok (.istore_n 1, 1) := by decide +kernel
theorem d2_5 : decode method_3_code 5 = .ok (.iload_n 0, 1) := by decide +kernel
theorem d2_6 : decode method_3_code 6 = .ok (.bipush 44, 2) := by decide +kernel
theorem d2_8 : decode method_3_code 8 = .ok (.if_icmp .eq 15, 3) := by decide +kernel
theorem d2_11 : decode method_3_code 11 = .ok (.iload_n 1, 1) := by decide +kernel
theorem d2_12 : decode method_3_code 12 = .ok (.bipush 123, 2) := by decide +kernel
theorem d2_14 : decode method_3_code 14 = .ok (.if_icmp .eq 9, 3) := by decide +kernel
theorem d2_17 : decode method_3_code 17 = .ok (.iload_n 1, 1) := by decide +kernel
theorem d2_18 : decode method_3_code 18 = .ok (.bipush 125, 2) := by decide +kernel
theorem d2_20 : decode method_3_code 20 = .ok (.if_icmp .ne 7, 3) := by decide +kernel
theorem d2_23 : decode method_3_code 23 = .ok (.iconst 1, 1) := by decide +kernel
theorem d2_24 : decode method_3_code 24 = .ok (.goto 4, 3) := by decide +kernel
theorem d2_27 : decode method_3_code 27 = .ok (.iconst 0, 1) := by decide +kernel
theorem d2_28 : decode method_3_code 28 = .ok (.ireturn, 1) := by decide +kernel
theorem pn_2 : plainName x.cls = true := by first | (simp [plainName, overriddenIn]; done) | decide +kernel
theorem ef_2 (m : MethodId) (x0 : Int32) : entryFrame m #[(.int x0)] 2 = mkF m 0 #[.val (.int x0), .unset] [] := by first | (simp [entryFrame, mkF, argsToLocals, Value.category]; done) | rfl
def Q2 (Z : State) (p1 : Int32) (h0 : Heap) (n0 : Nat) (v : Option Value) (h : Heap) (L : List Loc) : Prop := v = some (.int (own_rf p1)) ∧ Fr n0 L ∧ h = h0
set_option maxRecDepth 65536 in
set_option maxHeartbeats 40000000 in
theorem rm2 (l : Launch) (Z : State) (a0 : Array Value) (hw : ∀ d ∈ tables_1, d.before a0 Z = true) (ws : List Jvm.Cond) (p1 : Int32) (h0 : Heap) (n0 : Nat) (Z0 : n0 ≤ h0.size)  :
    MetFree l (⟨x.cls, "reference", "(I)Z"⟩ : MethodName) (head1 (Jvm.Cond.code (⟨x.cls, "reference", "(I)Z"⟩ : MethodName) method_3_code 2 (some .boolean) :: ws) ({ frames := 0, cells := 0, slots := 0, locals := 0 } : Room)) (fun a U => a = #[(.int p1)] ∧ Z.Warmed39 U.vm ∧ U.heap = h0) (fun _ _ _ _ _ => True) (fun _ U o U' => ∃ v L, o = .returned v ∧ (Q2 Z p1 h0 n0) v U'.heap L ∧ FrameEnd U o U' L ({ frames := 0, cells := 0, slots := 0, locals := 0 } : Room).cells ({ frames := 0, cells := 0, slots := 0, locals := 0 } : Room).slots) := by
  refine MetFree.of_bodySF (plainFor_of_name pn_2) hisR ?_
  intro p e s m args below meth c s₁ Bd hml0 hP hK
  obtain ⟨rfl, hZ, hh⟩ := hP
  have hx := Bd.exec
  have hby := Bd.bytes
  have hml : c.maxLocals = 2 := hml0
  have hown : s.vm.findClass x.cls = some m.cls := (findClass_of_methodNamed Bd.named :)
  have hnm := (name_of_methodNamed Bd.named Bd.method).1
  have X0 : Stand p l e ({ frames := 0, cells := 0, slots := 0, locals := 0 } : Room) s m #[(.int p1)] below meth c s₁ [] 0 0 := Stand.of_body Bd
  have e0 : s₁.heap = h0 := by rw [← hh, Bd.state]; rfl
  have N0 := Fr.nil n0
  show OwnG p.tables e below s ({ frames := 0, cells := 0, slots := 0, locals := 0 } : Room) (Q2 Z p1 h0 n0) (s₁.setTop (entryFrame m #[(.int p1)] 2))
  refine OwnG.go (fun tz kz => castTop (ef_2 m p1) kz) ?_
  show OwnG _ _ _ _ _ _ (s₁.setTop (mkF m 0 #[.val (.int p1), .unset] []))
  refine OwnG.go (fun _ kz => XS.iloadN X0.here hx rfl (hb hby d2_0) rfl kz) ?_
  show OwnG _ _ _ _ _ _ (s₁.setTop (mkF m 1 #[.val (.int p1), .unset] [(.int p1)]))
  refine OwnG.go (fun _ kz => XS.bipush X0.here hx rfl (hb hby d2_1) kz) ?_
  show OwnG _ _ _ _ _ _ (s₁.setTop (mkF m 3 #[.val (.int p1), .unset] [(.int (32 : Int32)), (.int p1)]))
  refine OwnG.go (fun _ kz => XS.ior X0.here hx rfl (hb hby d2_3) rfl kz) ?_
  show OwnG _ _ _ _ _ _ (s₁.setTop (mkF m 4 #[.val (.int p1), .unset] [(.int (p1 ||| (32 : Int32)))]))
  refine OwnG.go (fun _ kz => XS.istoreN X0.here hx rfl (hb hby d2_4) rfl (l' := #[.val (.int p1), .val (.int (p1 ||| (32 : Int32)))]) rfl kz) ?_
  show OwnG _ _ _ _ _ _ (s₁.setTop (mkF m 5 #[.val (.int p1), .val (.int (p1 ||| (32 : Int32)))] []))
  refine OwnG.go (fun _ kz => XS.iloadN X0.here hx rfl (hb hby d2_5) rfl kz) ?_
  show OwnG _ _ _ _ _ _ (s₁.setTop (mkF m 6 #[.val (.int p1), .val (.int (p1 ||| (32 : Int32)))] [(.int p1)]))
  refine OwnG.go (fun _ kz => XS.bipush X0.here hx rfl (hb hby d2_6) kz) ?_
  show OwnG _ _ _ _ _ _ (s₁.setTop (mkF m 8 #[.val (.int p1), .val (.int (p1 ||| (32 : Int32)))] [(.int (44 : Int32)), (.int p1)]))
  by_cases c0 : p1 = (44 : Int32)
  · have _u := ()
    refine OwnG.go (fun _ kz => XS.icmpYes X0.here hx rfl (pc0 := 8) (pc' := 23) rfl (hb hby d2_8) rfl (teq c0).1 (by decide) (by decide) kz) ?_
    show OwnG _ _ _ _ _ _ (s₁.setTop (mkF m 23 #[.val (.int p1), .val (.int (p1 ||| (32 : Int32)))] []))
    refine OwnG.go (fun _ kz => XS.iconst X0.here hx rfl (hb hby d2_23) kz) ?_
    show OwnG _ _ _ _ _ _ (s₁.setTop (mkF m 24 #[.val (.int p1), .val (.int (p1 ||| (32 : Int32)))] [(.int (1 : Int32))]))
    refine OwnG.go (fun _ kz => XS.goto X0.here hx rfl (pc0 := 24) (pc' := 28) rfl (hb hby d2_24) (by decide) (by decide) kz) ?_
    show OwnG _ _ _ _ _ _ (s₁.setTop (mkF m 28 #[.val (.int p1), .val (.int (p1 ||| (32 : Int32)))] [(.int (1 : Int32))]))
    obtain ⟨fs, hr, hrun, hended, hW, hsame⟩ := X0.leave (v := some (.int (1 : Int32))) (fun h => by rw [Bd.returns] at h; cases h)
    refine ⟨_, _, retN X0 hx (t := .boolean) Bd.returns (by simp) (hb hby d2_28) hr, hrun, hended, _, _, rfl, ?_, ⟨_, rfl⟩, hW, hsame.mono (by decide) (by decide)⟩
    show (Q2 Z p1 h0 n0) _ s₁.heap _
    rw [e0]
    exact ⟨by simp [own_rf, c0], N0, rfl⟩
  · have _u := ()
    refine OwnG.go (fun _ kz => XS.icmpNo X0.here hx rfl (hb hby d2_8) rfl (feq c0).1 kz) ?_
    show OwnG _ _ _ _ _ _ (s₁.setTop (mkF m 11 #[.val (.int p1), .val (.int (p1 ||| (32 : Int32)))] []))
    refine OwnG.go (fun _ kz => XS.iloadN X0.here hx rfl (hb hby d2_11) rfl kz) ?_
    show OwnG _ _ _ _ _ _ (s₁.setTop (mkF m 12 #[.val (.int p1), .val (.int (p1 ||| (32 : Int32)))] [(.int (p1 ||| (32 : Int32)))]))
    refine OwnG.go (fun _ kz => XS.bipush X0.here hx rfl (hb hby d2_12) kz) ?_
    show OwnG _ _ _ _ _ _ (s₁.setTop (mkF m 14 #[.val (.int p1), .val (.int (p1 ||| (32 : Int32)))] [(.int (123 : Int32)), (.int (p1 ||| (32 : Int32)))]))
    by_cases c1 : (p1 ||| (32 : Int32)) = (123 : Int32)
    · have _u := ()
      refine OwnG.go (fun _ kz => XS.icmpYes X0.here hx rfl (pc0 := 14) (pc' := 23) rfl (hb hby d2_14) rfl (teq c1).1 (by decide) (by decide) kz) ?_
      show OwnG _ _ _ _ _ _ (s₁.setTop (mkF m 23 #[.val (.int p1), .val (.int (p1 ||| (32 : Int32)))] []))
      refine OwnG.go (fun _ kz => XS.iconst X0.here hx rfl (hb hby d2_23) kz) ?_
      show OwnG _ _ _ _ _ _ (s₁.setTop (mkF m 24 #[.val (.int p1), .val (.int (p1 ||| (32 : Int32)))] [(.int (1 : Int32))]))
      refine OwnG.go (fun _ kz => XS.goto X0.here hx rfl (pc0 := 24) (pc' := 28) rfl (hb hby d2_24) (by decide) (by decide) kz) ?_
      show OwnG _ _ _ _ _ _ (s₁.setTop (mkF m 28 #[.val (.int p1), .val (.int (p1 ||| (32 : Int32)))] [(.int (1 : Int32))]))
      obtain ⟨fs, hr, hrun, hended, hW, hsame⟩ := X0.leave (v := some (.int (1 : Int32))) (fun h => by rw [Bd.returns] at h; cases h)
      refine ⟨_, _, retN X0 hx (t := .boolean) Bd.returns (by simp) (hb hby d2_28) hr, hrun, hended, _, _, rfl, ?_, ⟨_, rfl⟩, hW, hsame.mono (by decide) (by decide)⟩
      show (Q2 Z p1 h0 n0) _ s₁.heap _
      rw [e0]
      exact ⟨by simp [own_rf, c0, c1], N0, rfl⟩
    · have _u := ()
      refine OwnG.go (fun _ kz => XS.icmpNo X0.here hx rfl (hb hby d2_14) rfl (feq c1).1 kz) ?_
      show OwnG _ _ _ _ _ _ (s₁.setTop (mkF m 17 #[.val (.int p1), .val (.int (p1 ||| (32 : Int32)))] []))
      refine OwnG.go (fun _ kz => XS.iloadN X0.here hx rfl (hb hby d2_17) rfl kz) ?_
      show OwnG _ _ _ _ _ _ (s₁.setTop (mkF m 18 #[.val (.int p1), .val (.int (p1 ||| (32 : Int32)))] [(.int (p1 ||| (32 : Int32)))]))
      refine OwnG.go (fun _ kz => XS.bipush X0.here hx rfl (hb hby d2_18) kz) ?_
      show OwnG _ _ _ _ _ _ (s₁.setTop (mkF m 20 #[.val (.int p1), .val (.int (p1 ||| (32 : Int32)))] [(.int (125 : Int32)), (.int (p1 ||| (32 : Int32)))]))
      by_cases c2 : (p1 ||| (32 : Int32)) = (125 : Int32)
      · have _u := ()
        refine OwnG.go (fun _ kz => XS.icmpNo X0.here hx rfl (hb hby d2_20) rfl (teq c2).2 kz) ?_
        show OwnG _ _ _ _ _ _ (s₁.setTop (mkF m 23 #[.val (.int p1), .val (.int (p1 ||| (32 : Int32)))] []))
        refine OwnG.go (fun _ kz => XS.iconst X0.here hx rfl (hb hby d2_23) kz) ?_
        show OwnG _ _ _ _ _ _ (s₁.setTop (mkF m 24 #[.val (.int p1), .val (.int (p1 ||| (32 : Int32)))] [(.int (1 : Int32))]))
        refine OwnG.go (fun _ kz => XS.goto X0.here hx rfl (pc0 := 24) (pc' := 28) rfl (hb hby d2_24) (by decide) (by decide) kz) ?_
        show OwnG _ _ _ _ _ _ (s₁.setTop (mkF m 28 #[.val (.int p1), .val (.int (p1 ||| (32 : Int32)))] [(.int (1 : Int32))]))
        obtain ⟨fs, hr, hrun, hended, hW, hsame⟩ := X0.leave (v := some (.int (1 : Int32))) (fun h => by rw [Bd.returns] at h; cases h)
        refine ⟨_, _, retN X0 hx (t := .boolean) Bd.returns (by simp) (hb hby d2_28) hr, hrun, hended, _, _, rfl, ?_, ⟨_, rfl⟩, hW, hsame.mono (by decide) (by decide)⟩
        show (Q2 Z p1 h0 n0) _ s₁.heap _
        rw [e0]
        exact ⟨by simp [own_rf, c0, c1, c2], N0, rfl⟩
      · have _u := ()
        refine OwnG.go (fun _ kz => XS.icmpYes X0.here hx rfl (pc0 := 20) (pc' := 27) rfl (hb hby d2_20) rfl (feq c2).2 (by decide) (by decide) kz) ?_
        show OwnG _ _ _ _ _ _ (s₁.setTop (mkF m 27 #[.val (.int p1), .val (.int (p1 ||| (32 : Int32)))] []))
        refine OwnG.go (fun _ kz => XS.iconst X0.here hx rfl (hb hby d2_27) kz) ?_
        show OwnG _ _ _ _ _ _ (s₁.setTop (mkF m 28 #[.val (.int p1), .val (.int (p1 ||| (32 : Int32)))] [(.int (0 : Int32))]))
        obtain ⟨fs, hr, hrun, hended, hW, hsame⟩ := X0.leave (v := some (.int (0 : Int32))) (fun h => by rw [Bd.returns] at h; cases h)
        refine ⟨_, _, retN X0 hx (t := .boolean) Bd.returns (by simp) (hb hby d2_28) hr, hrun, hended, _, _, rfl, ?_, ⟨_, rfl⟩, hW, hsame.mono (by decide) (by decide)⟩
        show (Q2 Z p1 h0 n0) _ s₁.heap _
        rw [e0]
        exact ⟨by simp [own_rf, c0, c1, c2], N0, rfl⟩
theorem pn_0 : plainName x.cls = true := by first | (simp [plainName, overriddenIn]; done) | decide +kernel
theorem ef_0 (m : MethodId) (x0 : Int32) (x1 : Int32) : entryFrame m #[(.int x0), (.int x1)] maxLocals = mkF m 0 #[.val (.int x0), .val (.int x1), .unset, .unset, .unset, .unset, .unset, .unset] [] := by first | (simp [entryFrame, mkF, argsToLocals, Value.category, maxLocals]; done) | rfl
def Q0 (Z : State) (p1 : Int32) (p2 : Int32) (h0 : Heap) (n0 : Nat) (v : Option Value) (h : Heap) (L : List Loc) : Prop := v = some (.int (1 : Int32)) ∧ Fr n0 L
set_option maxRecDepth 65536 in
set_option maxHeartbeats 40000000 in
theorem rm0 (l : Launch) (Z : State) (a0 : Array Value) (hw : ∀ d ∈ tables_1, d.before a0 Z = true) (ws : List Jvm.Cond) (p1 : Int32) (p2 : Int32) (h0 : Heap) (n0 : Nat) (Z0 : n0 ≤ h0.size)  :
    MetFree l x (head1 (Jvm.Cond.code x code maxLocals ret :: ws) room_1) (fun a U => a = #[(.int p1), (.int p2)] ∧ Z.Warmed39 U.vm ∧ U.heap = h0) (fun _ _ _ _ _ => True) (fun _ U o U' => ∃ v L, o = .returned v ∧ (Q0 Z p1 p2 h0 n0) v U'.heap L ∧ FrameEnd U o U' L room_1.cells room_1.slots) := by
  refine MetFree.of_bodySF (plainFor_of_name pn_0) hisR ?_
  intro p e s m args below meth c s₁ Bd hml0 hP hK
  obtain ⟨rfl, hZ, hh⟩ := hP
  have hx := Bd.exec
  have hby := Bd.bytes
  have hml : c.maxLocals = 8 := hml0
  have hown : s.vm.findClass x.cls = some m.cls := (findClass_of_methodNamed Bd.named :)
  have hnm := (name_of_methodNamed Bd.named Bd.method).1
  have X0 : Stand p l e room_1 s m #[(.int p1), (.int p2)] below meth c s₁ [] 0 0 := Stand.of_body Bd
  have e0 : s₁.heap = h0 := by rw [← hh, Bd.state]; rfl
  have N0 := Fr.nil n0
  show OwnG p.tables e below s room_1 (Q0 Z p1 p2 h0 n0) (s₁.setTop (entryFrame m #[(.int p1), (.int p2)] maxLocals))
  refine OwnG.go (fun tz kz => castTop (ef_0 m p1 p2) kz) ?_
  show OwnG _ _ _ _ _ _ (s₁.setTop (mkF m 0 #[.val (.int p1), .val (.int p2), .unset, .unset, .unset, .unset, .unset, .unset] []))
  refine OwnG.go (fun _ kz => XS.iloadN X0.here hx rfl (hb hby at_0) rfl kz) ?_
  show OwnG _ _ _ _ _ _ (s₁.setTop (mkF m 1 #[.val (.int p1), .val (.int p2), .unset, .unset, .unset, .unset, .unset, .unset] [(.int p1)]))
  obtain ⟨_, _, ⟨T1, L1, k1, n1⟩, -, X1, ⟨Lc1, hQ1, l1, y1, z1⟩, st1⟩ := Jvm.LawKit.callS X0 hx (y := own_y1) hown (mvT hZ (hw _ (List.mem_of_getElem? (i := 0) rfl))) (mvT hZ (hw _ (List.mem_of_getElem? (i := 1) rfl))) (mvT hZ (hw _ (List.mem_of_getElem? (i := 2) rfl))) (mvT hZ (hw _ (List.mem_of_getElem? (i := 3) rfl))) (by decide) (backOf (W := 0) (rm1 l Z a0 hw [] p1 h0 n0 Z0) hZ (hw _ (List.mem_of_getElem? (i := 3) rfl)) (hw _ (List.mem_of_getElem? (i := 2) rfl)) (by decide) (by decide)) (g := (mkF m 1 #[.val (.int p1), .val (.int p2), .unset, .unset, .unset, .unset, .unset, .unset] [(.int p1)])) rfl (by rw [hml]; rfl) (argsL := [(.int p1)]) (rest := []) (lenOf pd_1 rfl) rfl (by show 2 * 0 + _ ≤ _; exact Nat.le_of_eq rfl) (hb hby at_1) (fun _ _ => ⟨rfl, e0, (by decide : 0 + 0 ≤ _), (by decide : 0 + 0 ≤ _)⟩)
  dsimp only [Pt.U, Pt.locs, Pt.cells, Pt.slots] at X1 l1 y1 z1 st1 hQ1
  subst l1 y1 z1
  obtain ⟨rfl, N1q, hh1⟩ := hQ1
  have N1 := Fr.app N0 N1q
  refine OwnG.go (fun tz kz => st1 tz kz) ?_
  show OwnG _ _ _ _ _ _ (T1.setTop (mkF m 4 #[.val (.int p1), .val (.int p2), .unset, .unset, .unset, .unset, .unset, .unset] [(.int (own_fl p1))]))
  refine OwnG.go (fun _ kz => XS.iloadN X1.here hx rfl (hb hby at_4) rfl kz) ?_
  show OwnG _ _ _ _ _ _ (T1.setTop (mkF m 5 #[.val (.int p1), .val (.int p2), .unset, .unset, .unset, .unset, .unset, .unset] [(.int p1), (.int (own_fl p1))]))
  obtain ⟨_, _, ⟨T2, L2, k2, n2⟩, -, X2, ⟨Lc2, hQ2, l2, y2, z2⟩, st2⟩ := Jvm.LawKit.callS X1 hx (y := (⟨x.cls, "reference", "(I)Z"⟩ : MethodName)) hown (mvT hZ (hw _ (List.mem_of_getElem? (i := 4) rfl))) (mvT hZ (hw _ (List.mem_of_getElem? (i := 5) rfl))) (mvT hZ (hw _ (List.mem_of_getElem? (i := 6) rfl))) (mvT hZ (hw _ (List.mem_of_getElem? (i := 7) rfl))) (by decide) (backOf (W := 1) (rm2 l Z a0 hw [] p1 h0 n0 Z0) hZ (hw _ (List.mem_of_getElem? (i := 7) rfl)) (hw _ (List.mem_of_getElem? (i := 6) rfl)) (by decide) (by decide)) (g := (mkF m 5 #[.val (.int p1), .val (.int p2), .unset, .unset, .unset, .unset, .unset, .unset] [(.int p1), (.int (own_fl p1))])) rfl (by rw [hml]; rfl) (argsL := [(.int p1)]) (rest := [(.int (own_fl p1))]) (lenOf pd_2 rfl) rfl (by show 2 * 0 + _ ≤ _; exact Nat.le_of_eq rfl) (hb hby at_5) (fun _ _ => ⟨rfl, hh1, (by decide : 0 + 0 ≤ _), (by decide : 0 + 0 ≤ _)⟩)
  dsimp only [Pt.U, Pt.locs, Pt.cells, Pt.slots] at X2 l2 y2 z2 st2 hQ2
  subst l2 y2 z2
  obtain ⟨rfl, N2q, hh2⟩ := hQ2
  have N2 := Fr.app N1 N2q
  refine OwnG.go (fun tz kz => st2 tz kz) ?_
  show OwnG _ _ _ _ _ _ (T2.setTop (mkF m 8 #[.val (.int p1), .val (.int p2), .unset, .unset, .unset, .unset, .unset, .unset] [(.int (own_rf p1)), (.int (own_fl p1))]))
  refine OwnG.go (fun _ kz => XS.icmpNo X2.here hx rfl (hb hby at_8) rfl (teq (own_law p1)).2 kz) ?_
  show OwnG _ _ _ _ _ _ (T2.setTop (mkF m 11 #[.val (.int p1), .val (.int p2), .unset, .unset, .unset, .unset, .unset, .unset] []))
  refine OwnG.go (fun _ kz => XS.iconst X2.here hx rfl (hb hby at_11) kz) ?_
  show OwnG _ _ _ _ _ _ (T2.setTop (mkF m 12 #[.val (.int p1), .val (.int p2), .unset, .unset, .unset, .unset, .unset, .unset] [(.int (1 : Int32))]))
  refine OwnG.go (fun _ kz => XS.goto X2.here hx rfl (pc0 := 12) (pc' := 16) rfl (hb hby at_12) (by decide) (by decide) kz) ?_
  show OwnG _ _ _ _ _ _ (T2.setTop (mkF m 16 #[.val (.int p1), .val (.int p2), .unset, .unset, .unset, .unset, .unset, .unset] [(.int (1 : Int32))]))
  refine OwnG.go (fun _ kz => XS.istoreN X2.here hx rfl (hb hby at_16) rfl (l' := #[.val (.int p1), .val (.int p2), .val (.int (1 : Int32)), .unset, .unset, .unset, .unset, .unset]) rfl kz) ?_
  show OwnG _ _ _ _ _ _ (T2.setTop (mkF m 17 #[.val (.int p1), .val (.int p2), .val (.int (1 : Int32)), .unset, .unset, .unset, .unset, .unset] []))
  refine OwnG.go (fun _ kz => XS.iconst X2.here hx rfl (hb hby at_17) kz) ?_
  show OwnG _ _ _ _ _ _ (T2.setTop (mkF m 18 #[.val (.int p1), .val (.int p2), .val (.int (1 : Int32)), .unset, .unset, .unset, .unset, .unset] [(.int (5 : Int32))]))
  obtain ⟨T3, h3, k3, X3, e3, E3, A3, st3⟩ := newP X2 hx hZ (hw _ (List.mem_of_getElem? (i := 8) rfl)) hh2 (g := (mkF m 18 #[.val (.int p1), .val (.int p2), .val (.int (1 : Int32)), .unset, .unset, .unset, .unset, .unset] [(.int (5 : Int32))])) rfl (hb hby at_18) rfl (by decide) (cap := 5) (by decide) (by decide) (by decide) (by decide)
  obtain ⟨b3, g3⟩ : ∃ z, z = h0.size := ⟨_, rfl⟩
  rw [← g3] at A3 st3
  refine OwnG.go st3 ?_
  show OwnG _ _ _ _ _ _ (T3.setTop (mkF m 20 #[.val (.int p1), .val (.int p2), .val (.int (1 : Int32)), .unset, .unset, .unset, .unset, .unset] [(.ref b3)]))
  have V_3 : Arv Z h3 b3 k3 .char (5 : Int32) [.int 0, .int 0, .int 0, .int 0, .int 0] (.int (0 : Int32)) := (Arv.new A3 (by decide)).pad (pad_rep [] (.int (0 : Int32)) 5)
  have gb : n0 ≤ b3 := Nat.le_trans Z0 (Nat.le_of_eq g3.symm)
  have Z_3 : n0 ≤ h3.size := Nat.le_trans Z0 E3.1
  refine OwnG.go (fun _ kz => XS.dup X3.here hx rfl (hb hby at_20) rfl rfl kz) ?_
  show OwnG _ _ _ _ _ _ (T3.setTop (mkF m 21 #[.val (.int p1), .val (.int p2), .val (.int (1 : Int32)), .unset, .unset, .unset, .unset, .unset] [(.ref b3), (.ref b3)]))
  refine OwnG.go (fun _ kz => XS.iconst X3.here hx rfl (hb hby at_21) kz) ?_
  show OwnG _ _ _ _ _ _ (T3.setTop (mkF m 22 #[.val (.int p1), .val (.int p2), .val (.int (1 : Int32)), .unset, .unset, .unset, .unset, .unset] [(.int (0 : Int32)), (.ref b3), (.ref b3)]))
  refine OwnG.go (fun _ kz => XS.bipush X3.here hx rfl (hb hby at_22) kz) ?_
  show OwnG _ _ _ _ _ _ (T3.setTop (mkF m 24 #[.val (.int p1), .val (.int p2), .val (.int (1 : Int32)), .unset, .unset, .unset, .unset, .unset] [(.int (44 : Int32)), (.int (0 : Int32)), (.ref b3), (.ref b3)]))
  obtain ⟨cl0, Ar0, qa0, Sa0, Na0, Ha0, Ga0⟩ := V_3
  have hin0 : ¬ ((0 : Int32) < 0 ∨ cl0.slots.size ≤ ((0 : Int32)).toNatClampNeg) := inb_of Sa0 ⟨by decide, by decide⟩
  obtain ⟨T4, h4, X4, e4, W4, st4⟩ := stC X3 hx hZ e3 Ar0 (j := (0 : Int32)) hin0 (g := (mkF m 24 #[.val (.int p1), .val (.int p2), .val (.int (1 : Int32)), .unset, .unset, .unset, .unset, .unset] [(.int (44 : Int32)), (.int (0 : Int32)), (.ref b3), (.ref b3)])) rfl rfl (hb hby at_24)
  have N4 := Fr.snoc X4 N2 gb
  refine OwnG.go st4 ?_
  show OwnG _ _ _ _ _ _ (T4.setTop (mkF m 25 #[.val (.int p1), .val (.int p2), .val (.int (1 : Int32)), .unset, .unset, .unset, .unset, .unset] [(.ref b3)]))
  have V_4 := Arv.set Ar0 qa0 Sa0 Na0 Ha0 Ga0 (fits_nar_char _) W4 0 rfl (Nat.le_of_ble_eq_true rfl)
  have Z_4 : n0 ≤ h4.size := Nat.le_trans Z_3 (Keep.of_wr W4).1
  refine OwnG.go (fun _ kz => XS.dup X4.here hx rfl (hb hby at_25) rfl rfl kz) ?_
  show OwnG _ _ _ _ _ _ (T4.setTop (mkF m 26 #[.val (.int p1), .val (.int p2), .val (.int (1 : Int32)), .unset, .unset, .unset, .unset, .unset] [(.ref b3), (.ref b3)]))
  refine OwnG.go (fun _ kz => XS.iconst X4.here hx rfl (hb hby at_26) kz) ?_
  show OwnG _ _ _ _ _ _ (T4.setTop (mkF m 27 #[.val (.int p1), .val (.int p2), .val (.int (1 : Int32)), .unset, .unset, .unset, .unset, .unset] [(.int (1 : Int32)), (.ref b3), (.ref b3)]))
  refine OwnG.go (fun _ kz => XS.bipush X4.here hx rfl (hb hby at_27) kz) ?_
  show OwnG _ _ _ _ _ _ (T4.setTop (mkF m 29 #[.val (.int p1), .val (.int p2), .val (.int (1 : Int32)), .unset, .unset, .unset, .unset, .unset] [(.int (91 : Int32)), (.int (1 : Int32)), (.ref b3), (.ref b3)]))
  obtain ⟨cl1, Ar1, qa1, Sa1, Na1, Ha1, Ga1⟩ := V_4
  have hin1 : ¬ ((1 : Int32) < 0 ∨ cl1.slots.size ≤ ((1 : Int32)).toNatClampNeg) := inb_of Sa1 ⟨by decide, by decide⟩
  obtain ⟨T5, h5, X5, e5, W5, st5⟩ := stC X4 hx hZ e4 Ar1 (j := (1 : Int32)) hin1 (g := (mkF m 29 #[.val (.int p1), .val (.int p2), .val (.int (1 : Int32)), .unset, .unset, .unset, .unset, .unset] [(.int (91 : Int32)), (.int (1 : Int32)), (.ref b3), (.ref b3)])) rfl rfl (hb hby at_29)
  have N5 := Fr.snoc X5 N4 gb
  refine OwnG.go st5 ?_
  show OwnG _ _ _ _ _ _ (T5.setTop (mkF m 30 #[.val (.int p1), .val (.int p2), .val (.int (1 : Int32)), .unset, .unset, .unset, .unset, .unset] [(.ref b3)]))
  have V_5 := Arv.set Ar1 qa1 Sa1 Na1 Ha1 Ga1 (fits_nar_char _) W5 1 rfl (Nat.le_of_ble_eq_true rfl)
  have Z_5 : n0 ≤ h5.size := Nat.le_trans Z_4 (Keep.of_wr W5).1
  refine OwnG.go (fun _ kz => XS.dup X5.here hx rfl (hb hby at_30) rfl rfl kz) ?_
  show OwnG _ _ _ _ _ _ (T5.setTop (mkF m 31 #[.val (.int p1), .val (.int p2), .val (.int (1 : Int32)), .unset, .unset, .unset, .unset, .unset] [(.ref b3), (.ref b3)]))
  refine OwnG.go (fun _ kz => XS.iconst X5.here hx rfl (hb hby at_31) kz) ?_
  show OwnG _ _ _ _ _ _ (T5.setTop (mkF m 32 #[.val (.int p1), .val (.int p2), .val (.int (1 : Int32)), .unset, .unset, .unset, .unset, .unset] [(.int (2 : Int32)), (.ref b3), (.ref b3)]))
  refine OwnG.go (fun _ kz => XS.bipush X5.here hx rfl (hb hby at_32) kz) ?_
  show OwnG _ _ _ _ _ _ (T5.setTop (mkF m 34 #[.val (.int p1), .val (.int p2), .val (.int (1 : Int32)), .unset, .unset, .unset, .unset, .unset] [(.int (93 : Int32)), (.int (2 : Int32)), (.ref b3), (.ref b3)]))
  obtain ⟨cl2, Ar2, qa2, Sa2, Na2, Ha2, Ga2⟩ := V_5
  have hin2 : ¬ ((2 : Int32) < 0 ∨ cl2.slots.size ≤ ((2 : Int32)).toNatClampNeg) := inb_of Sa2 ⟨by decide, by decide⟩
  obtain ⟨T6, h6, X6, e6, W6, st6⟩ := stC X5 hx hZ e5 Ar2 (j := (2 : Int32)) hin2 (g := (mkF m 34 #[.val (.int p1), .val (.int p2), .val (.int (1 : Int32)), .unset, .unset, .unset, .unset, .unset] [(.int (93 : Int32)), (.int (2 : Int32)), (.ref b3), (.ref b3)])) rfl rfl (hb hby at_34)
  have N6 := Fr.snoc X6 N5 gb
  refine OwnG.go st6 ?_
  show OwnG _ _ _ _ _ _ (T6.setTop (mkF m 35 #[.val (.int p1), .val (.int p2), .val (.int (1 : Int32)), .unset, .unset, .unset, .unset, .unset] [(.ref b3)]))
  have V_6 := Arv.set Ar2 qa2 Sa2 Na2 Ha2 Ga2 (fits_nar_char _) W6 2 rfl (Nat.le_of_ble_eq_true rfl)
  have Z_6 : n0 ≤ h6.size := Nat.le_trans Z_5 (Keep.of_wr W6).1
  refine OwnG.go (fun _ kz => XS.dup X6.here hx rfl (hb hby at_35) rfl rfl kz) ?_
  show OwnG _ _ _ _ _ _ (T6.setTop (mkF m 36 #[.val (.int p1), .val (.int p2), .val (.int (1 : Int32)), .unset, .unset, .unset, .unset, .unset] [(.ref b3), (.ref b3)]))
  refine OwnG.go (fun _ kz => XS.iconst X6.here hx rfl (hb hby at_36) kz) ?_
  show OwnG _ _ _ _ _ _ (T6.setTop (mkF m 37 #[.val (.int p1), .val (.int p2), .val (.int (1 : Int32)), .unset, .unset, .unset, .unset, .unset] [(.int (3 : Int32)), (.ref b3), (.ref b3)]))
  refine OwnG.go (fun _ kz => XS.bipush X6.here hx rfl (hb hby at_37) kz) ?_
  show OwnG _ _ _ _ _ _ (T6.setTop (mkF m 39 #[.val (.int p1), .val (.int p2), .val (.int (1 : Int32)), .unset, .unset, .unset, .unset, .unset] [(.int (123 : Int32)), (.int (3 : Int32)), (.ref b3), (.ref b3)]))
  obtain ⟨cl3, Ar3, qa3, Sa3, Na3, Ha3, Ga3⟩ := V_6
  have hin3 : ¬ ((3 : Int32) < 0 ∨ cl3.slots.size ≤ ((3 : Int32)).toNatClampNeg) := inb_of Sa3 ⟨by decide, by decide⟩
  obtain ⟨T7, h7, X7, e7, W7, st7⟩ := stC X6 hx hZ e6 Ar3 (j := (3 : Int32)) hin3 (g := (mkF m 39 #[.val (.int p1), .val (.int p2), .val (.int (1 : Int32)), .unset, .unset, .unset, .unset, .unset] [(.int (123 : Int32)), (.int (3 : Int32)), (.ref b3), (.ref b3)])) rfl rfl (hb hby at_39)
  have N7 := Fr.snoc X7 N6 gb
  refine OwnG.go st7 ?_
  show OwnG _ _ _ _ _ _ (T7.setTop (mkF m 40 #[.val (.int p1), .val (.int p2), .val (.int (1 : Int32)), .unset, .unset, .unset, .unset, .unset] [(.ref b3)]))
  have V_7 := Arv.set Ar3 qa3 Sa3 Na3 Ha3 Ga3 (fits_nar_char _) W7 3 rfl (Nat.le_of_ble_eq_true rfl)
  have Z_7 : n0 ≤ h7.size := Nat.le_trans Z_6 (Keep.of_wr W7).1
  refine OwnG.go (fun _ kz => XS.dup X7.here hx rfl (hb hby at_40) rfl rfl kz) ?_
  show OwnG _ _ _ _ _ _ (T7.setTop (mkF m 41 #[.val (.int p1), .val (.int p2), .val (.int (1 : Int32)), .unset, .unset, .unset, .unset, .unset] [(.ref b3), (.ref b3)]))
  refine OwnG.go (fun _ kz => XS.iconst X7.here hx rfl (hb hby at_41) kz) ?_
  show OwnG _ _ _ _ _ _ (T7.setTop (mkF m 42 #[.val (.int p1), .val (.int p2), .val (.int (1 : Int32)), .unset, .unset, .unset, .unset, .unset] [(.int (4 : Int32)), (.ref b3), (.ref b3)]))
  refine OwnG.go (fun _ kz => XS.bipush X7.here hx rfl (hb hby at_42) kz) ?_
  show OwnG _ _ _ _ _ _ (T7.setTop (mkF m 44 #[.val (.int p1), .val (.int p2), .val (.int (1 : Int32)), .unset, .unset, .unset, .unset, .unset] [(.int (125 : Int32)), (.int (4 : Int32)), (.ref b3), (.ref b3)]))
  obtain ⟨cl4, Ar4, qa4, Sa4, Na4, Ha4, Ga4⟩ := V_7
  have hin4 : ¬ ((4 : Int32) < 0 ∨ cl4.slots.size ≤ ((4 : Int32)).toNatClampNeg) := inb_of Sa4 ⟨by decide, by decide⟩
  obtain ⟨T8, h8, X8, e8, W8, st8⟩ := stC X7 hx hZ e7 Ar4 (j := (4 : Int32)) hin4 (g := (mkF m 44 #[.val (.int p1), .val (.int p2), .val (.int (1 : Int32)), .unset, .unset, .unset, .unset, .unset] [(.int (125 : Int32)), (.int (4 : Int32)), (.ref b3), (.ref b3)])) rfl rfl (hb hby at_44)
  have N8 := Fr.snoc X8 N7 gb
  refine OwnG.go st8 ?_
  show OwnG _ _ _ _ _ _ (T8.setTop (mkF m 45 #[.val (.int p1), .val (.int p2), .val (.int (1 : Int32)), .unset, .unset, .unset, .unset, .unset] [(.ref b3)]))
  have V_8 := Arv.set Ar4 qa4 Sa4 Na4 Ha4 Ga4 (fits_nar_char _) W8 4 rfl (Nat.le_of_ble_eq_true rfl)
  have Z_8 : n0 ≤ h8.size := Nat.le_trans Z_7 (Keep.of_wr W8).1
  refine OwnG.go (fun _ kz => XS.astoreN X8.here hx rfl (hb hby at_45) rfl rfl (l' := #[.val (.int p1), .val (.int p2), .val (.int (1 : Int32)), .val (.ref b3), .unset, .unset, .unset, .unset]) rfl kz) ?_
  show OwnG _ _ _ _ _ _ (T8.setTop (mkF m 46 #[.val (.int p1), .val (.int p2), .val (.int (1 : Int32)), .val (.ref b3), .unset, .unset, .unset, .unset] []))
  refine OwnG.go (fun _ kz => XS.aloadN X8.here hx rfl (hb hby at_46) rfl rfl kz) ?_
  show OwnG _ _ _ _ _ _ (T8.setTop (mkF m 47 #[.val (.int p1), .val (.int p2), .val (.int (1 : Int32)), .val (.ref b3), .unset, .unset, .unset, .unset] [(.ref b3)]))
  refine OwnG.go (fun _ kz => XS.iloadN X8.here hx rfl (hb hby at_47) rfl kz) ?_
  show OwnG _ _ _ _ _ _ (T8.setTop (mkF m 48 #[.val (.int p1), .val (.int p2), .val (.int (1 : Int32)), .val (.ref b3), .unset, .unset, .unset, .unset] [(.int p2), (.ref b3)]))
  refine OwnG.go (fun _ kz => X8.ldcInt hx hown (mvT hZ (hw _ (List.mem_of_getElem? (i := 9) rfl))) (g := (mkF m 48 #[.val (.int p1), .val (.int p2), .val (.int (1 : Int32)), .val (.ref b3), .unset, .unset, .unset, .unset] [(.int p2), (.ref b3)])) rfl (hb hby at_48) _ kz) ?_
  show OwnG _ _ _ _ _ _ (T8.setTop (mkF m 50 #[.val (.int p1), .val (.int p2), .val (.int (1 : Int32)), .val (.ref b3), .unset, .unset, .unset, .unset] [(.int (2147483647 : Int32)), (.int p2), (.ref b3)]))
  refine OwnG.go (fun _ kz => XS.iand X8.here hx rfl (hb hby at_50) rfl kz) ?_
  show OwnG _ _ _ _ _ _ (T8.setTop (mkF m 51 #[.val (.int p1), .val (.int p2), .val (.int (1 : Int32)), .val (.ref b3), .unset, .unset, .unset, .unset] [(.int (p2 &&& (2147483647 : Int32))), (.ref b3)]))
  refine OwnG.go (fun _ kz => XS.iconst X8.here hx rfl (hb hby at_51) kz) ?_
  show OwnG _ _ _ _ _ _ (T8.setTop (mkF m 52 #[.val (.int p1), .val (.int p2), .val (.int (1 : Int32)), .val (.ref b3), .unset, .unset, .unset, .unset] [(.int (5 : Int32)), (.int (p2 &&& (2147483647 : Int32))), (.ref b3)]))
  refine OwnG.go (fun _ kz => iremM X8 hx rfl (hb hby at_52) rfl (by decide) kz) ?_
  show OwnG _ _ _ _ _ _ (T8.setTop (mkF m 53 #[.val (.int p1), .val (.int p2), .val (.int (1 : Int32)), .val (.ref b3), .unset, .unset, .unset, .unset] [(.int ((p2 &&& (2147483647 : Int32)) % (5 : Int32))), (.ref b3)]))
  have Vf : Arv Z h8 b3 k3 .char (5 : Int32) [.int 44, .int 91, .int 93, .int 123, .int 125] (.int (0 : Int32)) := V_8
  obtain ⟨cf, Arf, qf, Sf, Nf, Hf, Gf⟩ := Vf
  obtain ⟨cc, hcc, hcv, hjn, hj5⟩ : ∃ cc : Int32, own_ind cc ∧ ([.int 44, .int 91, .int 93, .int 123, .int 125] : List Value).getD (((p2 &&& (2147483647 : Int32)) % (5 : Int32))).toNatClampNeg (.int (0 : Int32)) = .int cc ∧ ¬ ((p2 &&& (2147483647 : Int32)) % (5 : Int32)) < 0 ∧ ((p2 &&& (2147483647 : Int32)) % (5 : Int32)) < 5 := by
    rcases own_rem5 p2 with q | q | q | q | q <;> rw [q]
    · exact ⟨44, by simp [own_ind], rfl, by decide, by decide⟩
    · exact ⟨91, by simp [own_ind], rfl, by decide, by decide⟩
    · exact ⟨93, by simp [own_ind], rfl, by decide, by decide⟩
    · exact ⟨123, by simp [own_ind], rfl, by decide, by decide⟩
    · exact ⟨125, by simp [own_ind], rfl, by decide, by decide⟩
  have hinf : ¬ (((p2 &&& (2147483647 : Int32)) % (5 : Int32)) < 0 ∨ cf.slots.size ≤ (((p2 &&& (2147483647 : Int32)) % (5 : Int32))).toNatClampNeg) := inb_of Sf ⟨hjn, hj5⟩
  refine OwnG.go (fun _ kz => X8.caload hx (j := ((p2 &&& (2147483647 : Int32)) % (5 : Int32))) (v := (.int cc)) (by rw [e8]; exact Arf.1) (State.isArrayOf_alike hZ.alike Arf.2.1) Arf.2.2 hinf (Has.at Hf hinf hcv) (g := (mkF m 53 #[.val (.int p1), .val (.int p2), .val (.int (1 : Int32)), .val (.ref b3), .unset, .unset, .unset, .unset] [(.int ((p2 &&& (2147483647 : Int32)) % (5 : Int32))), (.ref b3)])) rfl rfl (hb hby at_53) _ kz) ?_
  show OwnG _ _ _ _ _ _ (T8.setTop (mkF m 54 #[.val (.int p1), .val (.int p2), .val (.int (1 : Int32)), .val (.ref b3), .unset, .unset, .unset, .unset] [(.int cc)]))
  refine OwnG.go (fun _ kz => XS.istore X8.here hx rfl (hb hby at_54) rfl (l' := #[.val (.int p1), .val (.int p2), .val (.int (1 : Int32)), .val (.ref b3), .val (.int cc), .unset, .unset, .unset]) rfl kz) ?_
  show OwnG _ _ _ _ _ _ (T8.setTop (mkF m 56 #[.val (.int p1), .val (.int p2), .val (.int (1 : Int32)), .val (.ref b3), .val (.int cc), .unset, .unset, .unset] []))
  refine OwnG.go (fun _ kz => XS.iload X8.here hx rfl (hb hby at_56) rfl kz) ?_
  show OwnG _ _ _ _ _ _ (T8.setTop (mkF m 58 #[.val (.int p1), .val (.int p2), .val (.int (1 : Int32)), .val (.ref b3), .val (.int cc), .unset, .unset, .unset] [(.int cc)]))
  obtain ⟨_, _, ⟨T9, L9, k9, n9⟩, -, X9, ⟨Lc9, hQ9, l9, y9, z9⟩, st9⟩ := Jvm.LawKit.callS X8 hx (y := own_y1) hown (mvT hZ (hw _ (List.mem_of_getElem? (i := 0) rfl))) (mvT hZ (hw _ (List.mem_of_getElem? (i := 1) rfl))) (mvT hZ (hw _ (List.mem_of_getElem? (i := 2) rfl))) (mvT hZ (hw _ (List.mem_of_getElem? (i := 3) rfl))) (by decide) (backOf (W := 0) (rm1 l Z a0 hw [] cc h8 n0 Z_8) hZ (hw _ (List.mem_of_getElem? (i := 3) rfl)) (hw _ (List.mem_of_getElem? (i := 2) rfl)) (by decide) (by decide)) (g := (mkF m 58 #[.val (.int p1), .val (.int p2), .val (.int (1 : Int32)), .val (.ref b3), .val (.int cc), .unset, .unset, .unset] [(.int cc)])) rfl (by rw [hml]; rfl) (argsL := [(.int cc)]) (rest := []) (lenOf pd_1 rfl) rfl (by show 2 * 0 + _ ≤ _; exact Nat.le_of_eq rfl) (hb hby at_58) (fun _ _ => ⟨rfl, e8, (by decide : 1 + 0 ≤ _), (by decide : 5 + 0 ≤ _)⟩)
  dsimp only [Pt.U, Pt.locs, Pt.cells, Pt.slots] at X9 l9 y9 z9 st9 hQ9
  subst l9 y9 z9
  obtain ⟨rfl, N9q, hh9⟩ := hQ9
  have N9 := Fr.app N8 N9q
  refine OwnG.go (fun tz kz => st9 tz kz) ?_
  show OwnG _ _ _ _ _ _ (T9.setTop (mkF m 61 #[.val (.int p1), .val (.int p2), .val (.int (1 : Int32)), .val (.ref b3), .val (.int cc), .unset, .unset, .unset] [(.int (own_fl cc))]))
  refine OwnG.go (fun _ kz => XS.istore X9.here hx rfl (hb hby at_61) rfl (l' := #[.val (.int p1), .val (.int p2), .val (.int (1 : Int32)), .val (.ref b3), .val (.int cc), .val (.int (own_fl cc)), .unset, .unset]) rfl kz) ?_
  show OwnG _ _ _ _ _ _ (T9.setTop (mkF m 63 #[.val (.int p1), .val (.int p2), .val (.int (1 : Int32)), .val (.ref b3), .val (.int cc), .val (.int (own_fl cc)), .unset, .unset] []))
  refine OwnG.go (fun _ kz => XS.iload X9.here hx rfl (hb hby at_63) rfl kz) ?_
  show OwnG _ _ _ _ _ _ (T9.setTop (mkF m 65 #[.val (.int p1), .val (.int p2), .val (.int (1 : Int32)), .val (.ref b3), .val (.int cc), .val (.int (own_fl cc)), .unset, .unset] [(.int cc)]))
  refine OwnG.go (fun _ kz => XS.iconst X9.here hx rfl (hb hby at_65) kz) ?_
  show OwnG _ _ _ _ _ _ (T9.setTop (mkF m 66 #[.val (.int p1), .val (.int p2), .val (.int (1 : Int32)), .val (.ref b3), .val (.int cc), .val (.int (own_fl cc)), .unset, .unset] [(.int (1 : Int32)), (.int cc)]))
  refine OwnG.go (fun _ kz => XS.isub X9.here hx rfl (hb hby at_66) rfl kz) ?_
  show OwnG _ _ _ _ _ _ (T9.setTop (mkF m 67 #[.val (.int p1), .val (.int p2), .val (.int (1 : Int32)), .val (.ref b3), .val (.int cc), .val (.int (own_fl cc)), .unset, .unset] [(.int (cc - (1 : Int32)))]))
  obtain ⟨_, _, ⟨T10, L10, k10, n10⟩, -, X10, ⟨Lc10, hQ10, l10, y10, z10⟩, st10⟩ := Jvm.LawKit.callS X9 hx (y := own_y1) hown (mvT hZ (hw _ (List.mem_of_getElem? (i := 0) rfl))) (mvT hZ (hw _ (List.mem_of_getElem? (i := 1) rfl))) (mvT hZ (hw _ (List.mem_of_getElem? (i := 2) rfl))) (mvT hZ (hw _ (List.mem_of_getElem? (i := 3) rfl))) (by decide) (backOf (W := 0) (rm1 l Z a0 hw [] (cc - (1 : Int32)) h8 n0 Z_8) hZ (hw _ (List.mem_of_getElem? (i := 3) rfl)) (hw _ (List.mem_of_getElem? (i := 2) rfl)) (by decide) (by decide)) (g := (mkF m 67 #[.val (.int p1), .val (.int p2), .val (.int (1 : Int32)), .val (.ref b3), .val (.int cc), .val (.int (own_fl cc)), .unset, .unset] [(.int (cc - (1 : Int32)))])) rfl (by rw [hml]; rfl) (argsL := [(.int (cc - (1 : Int32)))]) (rest := []) (lenOf pd_1 rfl) rfl (by show 2 * 0 + _ ≤ _; exact Nat.le_of_eq rfl) (hb hby at_67) (fun _ _ => ⟨rfl, hh9, (by decide : 1 + 0 ≤ _), (by decide : 5 + 0 ≤ _)⟩)
  dsimp only [Pt.U, Pt.locs, Pt.cells, Pt.slots] at X10 l10 y10 z10 st10 hQ10
  subst l10 y10 z10
  obtain ⟨rfl, N10q, hh10⟩ := hQ10
  have N10 := Fr.app N9 N10q
  refine OwnG.go (fun tz kz => st10 tz kz) ?_
  show OwnG _ _ _ _ _ _ (T10.setTop (mkF m 70 #[.val (.int p1), .val (.int p2), .val (.int (1 : Int32)), .val (.ref b3), .val (.int cc), .val (.int (own_fl cc)), .unset, .unset] [(.int (own_fl (cc - (1 : Int32))))]))
  refine OwnG.go (fun _ kz => XS.ifNo X10.here hx rfl (hb hby at_70) rfl ((if0 _ _).trans (teq (own_n1 hcc)).2) kz) ?_
  show OwnG _ _ _ _ _ _ (T10.setTop (mkF m 73 #[.val (.int p1), .val (.int p2), .val (.int (1 : Int32)), .val (.ref b3), .val (.int cc), .val (.int (own_fl cc)), .unset, .unset] []))
  refine OwnG.go (fun _ kz => XS.iload X10.here hx rfl (hb hby at_73) rfl kz) ?_
  show OwnG _ _ _ _ _ _ (T10.setTop (mkF m 75 #[.val (.int p1), .val (.int p2), .val (.int (1 : Int32)), .val (.ref b3), .val (.int cc), .val (.int (own_fl cc)), .unset, .unset] [(.int cc)]))
  refine OwnG.go (fun _ kz => XS.iconst X10.here hx rfl (hb hby at_75) kz) ?_
  show OwnG _ _ _ _ _ _ (T10.setTop (mkF m 76 #[.val (.int p1), .val (.int p2), .val (.int (1 : Int32)), .val (.ref b3), .val (.int cc), .val (.int (own_fl cc)), .unset, .unset] [(.int (1 : Int32)), (.int cc)]))
  refine OwnG.go (fun _ kz => XS.iadd X10.here hx rfl (hb hby at_76) rfl kz) ?_
  show OwnG _ _ _ _ _ _ (T10.setTop (mkF m 77 #[.val (.int p1), .val (.int p2), .val (.int (1 : Int32)), .val (.ref b3), .val (.int cc), .val (.int (own_fl cc)), .unset, .unset] [(.int (cc + (1 : Int32)))]))
  obtain ⟨_, _, ⟨T11, L11, k11, n11⟩, -, X11, ⟨Lc11, hQ11, l11, y11, z11⟩, st11⟩ := Jvm.LawKit.callS X10 hx (y := own_y1) hown (mvT hZ (hw _ (List.mem_of_getElem? (i := 0) rfl))) (mvT hZ (hw _ (List.mem_of_getElem? (i := 1) rfl))) (mvT hZ (hw _ (List.mem_of_getElem? (i := 2) rfl))) (mvT hZ (hw _ (List.mem_of_getElem? (i := 3) rfl))) (by decide) (backOf (W := 0) (rm1 l Z a0 hw [] (cc + (1 : Int32)) h8 n0 Z_8) hZ (hw _ (List.mem_of_getElem? (i := 3) rfl)) (hw _ (List.mem_of_getElem? (i := 2) rfl)) (by decide) (by decide)) (g := (mkF m 77 #[.val (.int p1), .val (.int p2), .val (.int (1 : Int32)), .val (.ref b3), .val (.int cc), .val (.int (own_fl cc)), .unset, .unset] [(.int (cc + (1 : Int32)))])) rfl (by rw [hml]; rfl) (argsL := [(.int (cc + (1 : Int32)))]) (rest := []) (lenOf pd_1 rfl) rfl (by show 2 * 0 + _ ≤ _; exact Nat.le_of_eq rfl) (hb hby at_77) (fun _ _ => ⟨rfl, hh10, (by decide : 1 + 0 ≤ _), (by decide : 5 + 0 ≤ _)⟩)
  dsimp only [Pt.U, Pt.locs, Pt.cells, Pt.slots] at X11 l11 y11 z11 st11 hQ11
  subst l11 y11 z11
  obtain ⟨rfl, N11q, hh11⟩ := hQ11
  have N11 := Fr.app N10 N11q
  refine OwnG.go (fun tz kz => st11 tz kz) ?_
  show OwnG _ _ _ _ _ _ (T11.setTop (mkF m 80 #[.val (.int p1), .val (.int p2), .val (.int (1 : Int32)), .val (.ref b3), .val (.int cc), .val (.int (own_fl cc)), .unset, .unset] [(.int (own_fl (cc + (1 : Int32))))]))
  refine OwnG.go (fun _ kz => XS.ifNo X11.here hx rfl (hb hby at_80) rfl ((if0 _ _).trans (teq (own_n2 hcc)).2) kz) ?_
  show OwnG _ _ _ _ _ _ (T11.setTop (mkF m 83 #[.val (.int p1), .val (.int p2), .val (.int (1 : Int32)), .val (.ref b3), .val (.int cc), .val (.int (own_fl cc)), .unset, .unset] []))
  refine OwnG.go (fun _ kz => XS.iconst X11.here hx rfl (hb hby at_83) kz) ?_
  show OwnG _ _ _ _ _ _ (T11.setTop (mkF m 84 #[.val (.int p1), .val (.int p2), .val (.int (1 : Int32)), .val (.ref b3), .val (.int cc), .val (.int (own_fl cc)), .unset, .unset] [(.int (1 : Int32))]))
  refine OwnG.go (fun _ kz => XS.goto X11.here hx rfl (pc0 := 84) (pc' := 88) rfl (hb hby at_84) (by decide) (by decide) kz) ?_
  show OwnG _ _ _ _ _ _ (T11.setTop (mkF m 88 #[.val (.int p1), .val (.int p2), .val (.int (1 : Int32)), .val (.ref b3), .val (.int cc), .val (.int (own_fl cc)), .unset, .unset] [(.int (1 : Int32))]))
  refine OwnG.go (fun _ kz => XS.istore X11.here hx rfl (hb hby at_88) rfl (l' := #[.val (.int p1), .val (.int p2), .val (.int (1 : Int32)), .val (.ref b3), .val (.int cc), .val (.int (own_fl cc)), .val (.int (1 : Int32)), .unset]) rfl kz) ?_
  show OwnG _ _ _ _ _ _ (T11.setTop (mkF m 90 #[.val (.int p1), .val (.int p2), .val (.int (1 : Int32)), .val (.ref b3), .val (.int cc), .val (.int (own_fl cc)), .val (.int (1 : Int32)), .unset] []))
  refine OwnG.go (fun _ kz => XS.iload X11.here hx rfl (hb hby at_90) rfl kz) ?_
  show OwnG _ _ _ _ _ _ (T11.setTop (mkF m 92 #[.val (.int p1), .val (.int p2), .val (.int (1 : Int32)), .val (.ref b3), .val (.int cc), .val (.int (own_fl cc)), .val (.int (1 : Int32)), .unset] [(.int cc)]))
  refine OwnG.go (fun _ kz => X11.ldcInt hx hown (mvT hZ (hw _ (List.mem_of_getElem? (i := 10) rfl))) (g := (mkF m 92 #[.val (.int p1), .val (.int p2), .val (.int (1 : Int32)), .val (.ref b3), .val (.int cc), .val (.int (own_fl cc)), .val (.int (1 : Int32)), .unset] [(.int cc)])) rfl (hb hby at_92) _ kz) ?_
  show OwnG _ _ _ _ _ _ (T11.setTop (mkF m 94 #[.val (.int p1), .val (.int p2), .val (.int (1 : Int32)), .val (.ref b3), .val (.int cc), .val (.int (own_fl cc)), .val (.int (1 : Int32)), .unset] [(.int (65536 : Int32)), (.int cc)]))
  refine OwnG.go (fun _ kz => XS.iadd X11.here hx rfl (hb hby at_94) rfl kz) ?_
  show OwnG _ _ _ _ _ _ (T11.setTop (mkF m 95 #[.val (.int p1), .val (.int p2), .val (.int (1 : Int32)), .val (.ref b3), .val (.int cc), .val (.int (own_fl cc)), .val (.int (1 : Int32)), .unset] [(.int (cc + (65536 : Int32)))]))
  obtain ⟨_, _, ⟨T12, L12, k12, n12⟩, -, X12, ⟨Lc12, hQ12, l12, y12, z12⟩, st12⟩ := Jvm.LawKit.callS X11 hx (y := own_y1) hown (mvT hZ (hw _ (List.mem_of_getElem? (i := 0) rfl))) (mvT hZ (hw _ (List.mem_of_getElem? (i := 1) rfl))) (mvT hZ (hw _ (List.mem_of_getElem? (i := 2) rfl))) (mvT hZ (hw _ (List.mem_of_getElem? (i := 3) rfl))) (by decide) (backOf (W := 0) (rm1 l Z a0 hw [] (cc + (65536 : Int32)) h8 n0 Z_8) hZ (hw _ (List.mem_of_getElem? (i := 3) rfl)) (hw _ (List.mem_of_getElem? (i := 2) rfl)) (by decide) (by decide)) (g := (mkF m 95 #[.val (.int p1), .val (.int p2), .val (.int (1 : Int32)), .val (.ref b3), .val (.int cc), .val (.int (own_fl cc)), .val (.int (1 : Int32)), .unset] [(.int (cc + (65536 : Int32)))])) rfl (by rw [hml]; rfl) (argsL := [(.int (cc + (65536 : Int32)))]) (rest := []) (lenOf pd_1 rfl) rfl (by show 2 * 0 + _ ≤ _; exact Nat.le_of_eq rfl) (hb hby at_95) (fun _ _ => ⟨rfl, hh11, (by decide : 1 + 0 ≤ _), (by decide : 5 + 0 ≤ _)⟩)
  dsimp only [Pt.U, Pt.locs, Pt.cells, Pt.slots] at X12 l12 y12 z12 st12 hQ12
  subst l12 y12 z12
  obtain ⟨rfl, N12q, hh12⟩ := hQ12
  have N12 := Fr.app N11 N12q
  refine OwnG.go (fun tz kz => st12 tz kz) ?_
  show OwnG _ _ _ _ _ _ (T12.setTop (mkF m 98 #[.val (.int p1), .val (.int p2), .val (.int (1 : Int32)), .val (.ref b3), .val (.int cc), .val (.int (own_fl cc)), .val (.int (1 : Int32)), .unset] [(.int (own_fl (cc + (65536 : Int32))))]))
  refine OwnG.go (fun _ kz => XS.ifNo X12.here hx rfl (hb hby at_98) rfl ((if0 _ _).trans (teq (own_f1 hcc)).2) kz) ?_
  show OwnG _ _ _ _ _ _ (T12.setTop (mkF m 101 #[.val (.int p1), .val (.int p2), .val (.int (1 : Int32)), .val (.ref b3), .val (.int cc), .val (.int (own_fl cc)), .val (.int (1 : Int32)), .unset] []))
  refine OwnG.go (fun _ kz => XS.iload X12.here hx rfl (hb hby at_101) rfl kz) ?_
  show OwnG _ _ _ _ _ _ (T12.setTop (mkF m 103 #[.val (.int p1), .val (.int p2), .val (.int (1 : Int32)), .val (.ref b3), .val (.int cc), .val (.int (own_fl cc)), .val (.int (1 : Int32)), .unset] [(.int cc)]))
  refine OwnG.go (fun _ kz => X12.ldcInt hx hown (mvT hZ (hw _ (List.mem_of_getElem? (i := 10) rfl))) (g := (mkF m 103 #[.val (.int p1), .val (.int p2), .val (.int (1 : Int32)), .val (.ref b3), .val (.int cc), .val (.int (own_fl cc)), .val (.int (1 : Int32)), .unset] [(.int cc)])) rfl (hb hby at_103) _ kz) ?_
  show OwnG _ _ _ _ _ _ (T12.setTop (mkF m 105 #[.val (.int p1), .val (.int p2), .val (.int (1 : Int32)), .val (.ref b3), .val (.int cc), .val (.int (own_fl cc)), .val (.int (1 : Int32)), .unset] [(.int (65536 : Int32)), (.int cc)]))
  refine OwnG.go (fun _ kz => XS.isub X12.here hx rfl (hb hby at_105) rfl kz) ?_
  show OwnG _ _ _ _ _ _ (T12.setTop (mkF m 106 #[.val (.int p1), .val (.int p2), .val (.int (1 : Int32)), .val (.ref b3), .val (.int cc), .val (.int (own_fl cc)), .val (.int (1 : Int32)), .unset] [(.int (cc - (65536 : Int32)))]))
  obtain ⟨_, _, ⟨T13, L13, k13, n13⟩, -, X13, ⟨Lc13, hQ13, l13, y13, z13⟩, st13⟩ := Jvm.LawKit.callS X12 hx (y := own_y1) hown (mvT hZ (hw _ (List.mem_of_getElem? (i := 0) rfl))) (mvT hZ (hw _ (List.mem_of_getElem? (i := 1) rfl))) (mvT hZ (hw _ (List.mem_of_getElem? (i := 2) rfl))) (mvT hZ (hw _ (List.mem_of_getElem? (i := 3) rfl))) (by decide) (backOf (W := 0) (rm1 l Z a0 hw [] (cc - (65536 : Int32)) h8 n0 Z_8) hZ (hw _ (List.mem_of_getElem? (i := 3) rfl)) (hw _ (List.mem_of_getElem? (i := 2) rfl)) (by decide) (by decide)) (g := (mkF m 106 #[.val (.int p1), .val (.int p2), .val (.int (1 : Int32)), .val (.ref b3), .val (.int cc), .val (.int (own_fl cc)), .val (.int (1 : Int32)), .unset] [(.int (cc - (65536 : Int32)))])) rfl (by rw [hml]; rfl) (argsL := [(.int (cc - (65536 : Int32)))]) (rest := []) (lenOf pd_1 rfl) rfl (by show 2 * 0 + _ ≤ _; exact Nat.le_of_eq rfl) (hb hby at_106) (fun _ _ => ⟨rfl, hh12, (by decide : 1 + 0 ≤ _), (by decide : 5 + 0 ≤ _)⟩)
  dsimp only [Pt.U, Pt.locs, Pt.cells, Pt.slots] at X13 l13 y13 z13 st13 hQ13
  subst l13 y13 z13
  obtain ⟨rfl, N13q, hh13⟩ := hQ13
  have N13 := Fr.app N12 N13q
  refine OwnG.go (fun tz kz => st13 tz kz) ?_
  show OwnG _ _ _ _ _ _ (T13.setTop (mkF m 109 #[.val (.int p1), .val (.int p2), .val (.int (1 : Int32)), .val (.ref b3), .val (.int cc), .val (.int (own_fl cc)), .val (.int (1 : Int32)), .unset] [(.int (own_fl (cc - (65536 : Int32))))]))
  refine OwnG.go (fun _ kz => XS.ifNo X13.here hx rfl (hb hby at_109) rfl ((if0 _ _).trans (teq (own_f2 hcc)).2) kz) ?_
  show OwnG _ _ _ _ _ _ (T13.setTop (mkF m 112 #[.val (.int p1), .val (.int p2), .val (.int (1 : Int32)), .val (.ref b3), .val (.int cc), .val (.int (own_fl cc)), .val (.int (1 : Int32)), .unset] []))
  refine OwnG.go (fun _ kz => XS.iconst X13.here hx rfl (hb hby at_112) kz) ?_
  show OwnG _ _ _ _ _ _ (T13.setTop (mkF m 113 #[.val (.int p1), .val (.int p2), .val (.int (1 : Int32)), .val (.ref b3), .val (.int cc), .val (.int (own_fl cc)), .val (.int (1 : Int32)), .unset] [(.int (1 : Int32))]))
  refine OwnG.go (fun _ kz => XS.goto X13.here hx rfl (pc0 := 113) (pc' := 117) rfl (hb hby at_113) (by decide) (by decide) kz) ?_
  show OwnG _ _ _ _ _ _ (T13.setTop (mkF m 117 #[.val (.int p1), .val (.int p2), .val (.int (1 : Int32)), .val (.ref b3), .val (.int cc), .val (.int (own_fl cc)), .val (.int (1 : Int32)), .unset] [(.int (1 : Int32))]))
  refine OwnG.go (fun _ kz => XS.istore X13.here hx rfl (hb hby at_117) rfl (l' := #[.val (.int p1), .val (.int p2), .val (.int (1 : Int32)), .val (.ref b3), .val (.int cc), .val (.int (own_fl cc)), .val (.int (1 : Int32)), .val (.int (1 : Int32))]) rfl kz) ?_
  show OwnG _ _ _ _ _ _ (T13.setTop (mkF m 119 #[.val (.int p1), .val (.int p2), .val (.int (1 : Int32)), .val (.ref b3), .val (.int cc), .val (.int (own_fl cc)), .val (.int (1 : Int32)), .val (.int (1 : Int32))] []))
  refine OwnG.go (fun _ kz => XS.iloadN X13.here hx rfl (hb hby at_119) rfl kz) ?_
  show OwnG _ _ _ _ _ _ (T13.setTop (mkF m 120 #[.val (.int p1), .val (.int p2), .val (.int (1 : Int32)), .val (.ref b3), .val (.int cc), .val (.int (own_fl cc)), .val (.int (1 : Int32)), .val (.int (1 : Int32))] [(.int (1 : Int32))]))
  refine OwnG.go (fun _ kz => XS.ifNo X13.here hx rfl (hb hby at_120) rfl ((if0 _ _).trans (feq (by decide)).1) kz) ?_
  show OwnG _ _ _ _ _ _ (T13.setTop (mkF m 123 #[.val (.int p1), .val (.int p2), .val (.int (1 : Int32)), .val (.ref b3), .val (.int cc), .val (.int (own_fl cc)), .val (.int (1 : Int32)), .val (.int (1 : Int32))] []))
  refine OwnG.go (fun _ kz => XS.iload X13.here hx rfl (hb hby at_123) rfl kz) ?_
  show OwnG _ _ _ _ _ _ (T13.setTop (mkF m 125 #[.val (.int p1), .val (.int p2), .val (.int (1 : Int32)), .val (.ref b3), .val (.int cc), .val (.int (own_fl cc)), .val (.int (1 : Int32)), .val (.int (1 : Int32))] [(.int (own_fl cc))]))
  refine OwnG.go (fun _ kz => XS.ifNo X13.here hx rfl (hb hby at_125) rfl ((if0 _ _).trans (feq (by rw [own_hit hcc]; decide)).1) kz) ?_
  show OwnG _ _ _ _ _ _ (T13.setTop (mkF m 128 #[.val (.int p1), .val (.int p2), .val (.int (1 : Int32)), .val (.ref b3), .val (.int cc), .val (.int (own_fl cc)), .val (.int (1 : Int32)), .val (.int (1 : Int32))] []))
  refine OwnG.go (fun _ kz => XS.iload X13.here hx rfl (hb hby at_128) rfl kz) ?_
  show OwnG _ _ _ _ _ _ (T13.setTop (mkF m 130 #[.val (.int p1), .val (.int p2), .val (.int (1 : Int32)), .val (.ref b3), .val (.int cc), .val (.int (own_fl cc)), .val (.int (1 : Int32)), .val (.int (1 : Int32))] [(.int (1 : Int32))]))
  refine OwnG.go (fun _ kz => XS.ifNo X13.here hx rfl (hb hby at_130) rfl ((if0 _ _).trans (feq (by decide)).1) kz) ?_
  show OwnG _ _ _ _ _ _ (T13.setTop (mkF m 133 #[.val (.int p1), .val (.int p2), .val (.int (1 : Int32)), .val (.ref b3), .val (.int cc), .val (.int (own_fl cc)), .val (.int (1 : Int32)), .val (.int (1 : Int32))] []))
  refine OwnG.go (fun _ kz => XS.iload X13.here hx rfl (hb hby at_133) rfl kz) ?_
  show OwnG _ _ _ _ _ _ (T13.setTop (mkF m 135 #[.val (.int p1), .val (.int p2), .val (.int (1 : Int32)), .val (.ref b3), .val (.int cc), .val (.int (own_fl cc)), .val (.int (1 : Int32)), .val (.int (1 : Int32))] [(.int (1 : Int32))]))
  refine OwnG.go (fun _ kz => XS.ifNo X13.here hx rfl (hb hby at_135) rfl ((if0 _ _).trans (feq (by decide)).1) kz) ?_
  show OwnG _ _ _ _ _ _ (T13.setTop (mkF m 138 #[.val (.int p1), .val (.int p2), .val (.int (1 : Int32)), .val (.ref b3), .val (.int cc), .val (.int (own_fl cc)), .val (.int (1 : Int32)), .val (.int (1 : Int32))] []))
  refine OwnG.go (fun _ kz => XS.iconst X13.here hx rfl (hb hby at_138) kz) ?_
  show OwnG _ _ _ _ _ _ (T13.setTop (mkF m 139 #[.val (.int p1), .val (.int p2), .val (.int (1 : Int32)), .val (.ref b3), .val (.int cc), .val (.int (own_fl cc)), .val (.int (1 : Int32)), .val (.int (1 : Int32))] [(.int (1 : Int32))]))
  refine OwnG.go (fun _ kz => XS.goto X13.here hx rfl (pc0 := 139) (pc' := 143) rfl (hb hby at_139) (by decide) (by decide) kz) ?_
  show OwnG _ _ _ _ _ _ (T13.setTop (mkF m 143 #[.val (.int p1), .val (.int p2), .val (.int (1 : Int32)), .val (.ref b3), .val (.int cc), .val (.int (own_fl cc)), .val (.int (1 : Int32)), .val (.int (1 : Int32))] [(.int (1 : Int32))]))
  obtain ⟨fs, hr, hrun, hended, hW, hsame⟩ := X13.leave (v := some (.int (1 : Int32))) (fun h => by rw [Bd.returns] at h; cases h)
  refine ⟨_, _, retN X13 hx (t := .boolean) Bd.returns (by simp) (hb hby at_143) hr, hrun, hended, _, _, rfl, ?_, ⟨_, rfl⟩, hW, hsame.mono (by decide) (by decide)⟩
  show (Q0 Z p1 p2 h0 n0) _ T13.heap _
  exact ⟨rfl, N13⟩
set_option maxRecDepth 65536 in
set_option maxHeartbeats 40000000 in
theorem comes_1 {Post : Tables → Env → Array Value → State → Outcome → State → Prop} (hpost : ∀ tb e args s v u, (limb_1_1.after args s (.returned v) u = true ∧ limb_1_2.after args s (.returned v) u = true ∧ True) → FrameEnd s (.returned v) u (Jvm.fieldLocs frame_1_writes args s ++ Jvm.arrayLocs frame_1_arrays args s ++ Jvm.staticLocs frame_1_statics s) 16 128 → Post tb e args s (.returned v) u) :
    ArmFor flags0 classFile x code maxLocals ret World_1 tables_1 room_1 Calls_1 rest_1 Pre_1 Post := by
  intro l hfl _ _ p e ha hc hk s m args below hf hA hF happ hP
  obtain ⟨hcalls, hrest, hpre⟩ := hP
  obtain ⟨-, -, -, hnamed, -, -, -, hat⟩ := (Spec.applies_iff hf).mp happ
  obtain ⟨hg, hn⟩ := and_e (Cond.before_iff.mp (show (Jvm.Cond.and given_1 narrow_1).before args s = true from hpre))
  obtain ⟨g0, gr0⟩ := and_e hg
  obtain ⟨ga0, gr1⟩ := and_e gr0
  obtain ⟨w0, w1, rfl⟩ : ∃ w0 w1 : Value, args = #[w0, w1] := by
    have hs : args.size = 2 := by simpa [Cond.value, given_1] using g0
    obtain ⟨L⟩ := args
    match L, hs with
    | [w0, w1], _ => exact ⟨w0, w1, rfl⟩
  have hw := fun d (hd : d ∈ tables_1) => atoms_spec (ws := Jvm.Cond.code x code maxLocals ret :: tables_1) hat d (List.mem_cons_of_mem _ hd)
  obtain ⟨i0, ei0⟩ := is_v ga0
  obtain rfl : w0 = (.int i0) := Option.some.inj ei0
  obtain ⟨i1, ei1⟩ := is_v gr1
  obtain rfl : w1 = (.int i1) := Option.some.inj ei1
  obtain ⟨n, o, h1, h2, h3, _, L, rfl, ⟨rfl, N⟩, hq⟩ := rm0 l s _ hw tables_1 i0 i1 s.heap s.heap.size (Nat.le_refl _) p e ha hc hk s m _ below hf ((Spec.applies_iff_loose hf).mp happ).1 ⟨rfl, State.Warmed39.refl s, rfl⟩ trivial
  refine ⟨n, _, h1, h2, h3, hpost _ _ _ _ _ _ ⟨Cond.after_iff.mpr rfl, Cond.after_iff.mpr (eq_i res_at (Term.int_eval (1)) rfl), trivial⟩ ⟨hq.1, hq.2.1, (hq.2.2.sift fun y hy => Or.inr (N y hy)).mono (by decide) (by decide)⟩⟩
theorem main_1_1 : Claimed_1_1 := comes_1 fun _ _ _ _ _ _ h hF => ⟨h.1, hF⟩
theorem main_1_2 : Claimed_1_2 := comes_1 fun _ _ _ _ _ _ h hF => ⟨h.2.1, hF⟩
end Jvm.Pilot.@@N@@
namespace Jvm.Pilot.@@N@@
open Jvm Jvm.ClassFile Sem Op Lib Jvm.Free Jvm.Stand Jvm.Pilot.@@N@@.Jvm.D
/-! MADE BY PROGRAM (witnessworld.py) out of the Statement's table words and the real class files: 11 classes; the members and pool entries that the words name. The judged class is class 1, her method 1. -/
namespace start1
open Jvm.ClassFile
def u (s : String) : CpInfo := .utf8 (stringToUtf16 s)
/-- a pool by its gaps: so many unusable entries, then the entry; so many at the end -/
def gap : Nat → List CpInfo → List CpInfo
  | 0, r => r
  | n + 1, r => .unusable :: gap n r
def poolList (es : List (Nat × CpInfo)) (last : Nat) : List CpInfo := es.foldr (fun e r => gap e.1 (e.2 :: r)) (gap last [])
def pool (es : List (Nat × CpInfo)) (last : Nat) : Array CpInfo := ⟨poolList es last⟩
def fileOf (pool : Array CpInfo) (this : Nat) (attrs : Array Attribute := #[]) (ms : Array MethodInfo := #[]) (fl : Nat := 33) (sup : Nat := 0) (ifs : Array Nat := #[]) (fds : Array FieldInfo := #[]) : ClassFile where
  minorVersion := 0
  majorVersion := 65
  constantPool := pool
  accessFlags := fl
  thisClass := this
  superClass := sup
  interfaces := ifs
  fields := fds
  methods := ms
  attributes := attrs
def plain (name : String) (sup : Option ClassId) : Class where
  name := name
  kind := .ordinary
  loader := none
  accessFlags := 33
  super := sup
  interfaces := #[]
  cf := none
  fields := #[]
  methods := #[]
  instanceTypes := #[]
  staticTypes := #[]
  resolved := #[]
  callSites := []
  init := .initialized
  statics := none
  mirror := none

def pool0 : Array CpInfo := pool [(5, u "<init>"), (0, u "()V"), (1, .class_ 10), (1, u "java/lang/Object")] 113

def k0m0 : Method := { name := "<init>", desc := "()V", sig := { parameters := [], returnType := none }, accessFlags := 1, code := none }
/-- java/lang/Object -/
def k0 : Class := { plain "java/lang/Object" none with
  accessFlags := 33
  interfaces := #[]
  cf := some (fileOf pool0 8 #[] #[{ accessFlags := 1, nameIndex := 5, descriptorIndex := 6, attributes := #[] }] 33 0 #[] #[])
  fields := #[]
  methods := #[k0m0]
  instanceTypes := #[]
  staticTypes := #[]
  resolved := Array.replicate 124 none
  statics := none }

def pool1 : Array CpInfo := pool [(2, .class_ 4), (1, u "java/lang/Object"), (0, u "<init>"), (0, u "()V"), (0, .methodref 8 9), (0, .class_ 10), (0, .nameAndType 11 12), (0, u own_y1.cls), (0, u "isFlowIndicator"), (0, u "(I)Z"), (0, .methodref 14 15), (0, .class_ 16), (0, .nameAndType 17 12), (0, u x.cls), (0, u "reference"), (0, .integer 2147483647), (0, .integer 65536), (2, u "law"), (0, u "(II)Z")] 5

def k1m0 : Method := { name := "<init>", desc := "()V", sig := { parameters := [], returnType := none }, accessFlags := 1, code := none }
def k1c1 : Code := { maxStack := 4, maxLocals := 8, code := code, exceptionTable := #[], attributes := #[] }
def k1m1 : Method := { name := "law", desc := "(II)Z", sig := { parameters := [.int, .int], returnType := some .boolean }, accessFlags := 9, code := some k1c1 }
def k1c2 : Code := { maxStack := 2, maxLocals := 2, code := method_3_code, exceptionTable := #[], attributes := #[] }
def k1m2 : Method := { name := "reference", desc := "(I)Z", sig := { parameters := [.int], returnType := some .boolean }, accessFlags := 10, code := some k1c2 }
/-- the law's class -/
def k1 : Class := { plain x.cls (some 0) with
  accessFlags := 49
  interfaces := #[]
  cf := some (fileOf pool1 14 #[] #[{ accessFlags := 1, nameIndex := 5, descriptorIndex := 6, attributes := #[] }, { accessFlags := 9, nameIndex := 22, descriptorIndex := 23, attributes := #[] }, { accessFlags := 10, nameIndex := 17, descriptorIndex := 12, attributes := #[] }] 49 2 #[] #[])
  fields := #[]
  methods := #[k1m0, k1m1, k1m2]
  instanceTypes := #[]
  staticTypes := #[]
  resolved := Array.replicate 29 none
  statics := none }

def pool2 : Array CpInfo := pool [(2, .class_ 4), (1, u "java/lang/Object"), (0, u "<init>"), (0, u "()V"), (29, .class_ 37), (0, u own_y1.cls), (11, u "(I)Z"), (14, u "isFlowIndicator"), (22, u "ESCAPED"), (0, u "[C"), (0, u "MAX_IMPLICIT_KEY"), (0, u "I"), (2, u "MAX_QUOTED"), (1, u "BYTE_ORDER_MARK"), (0, u "C"), (0, u "URI_PUNCTUATION"), (0, u "Ljava/lang/String;"), (0, u "ESCAPE_LETTERS")] 37

def k2m0 : Method := { name := "<init>", desc := "()V", sig := { parameters := [], returnType := none }, accessFlags := 2, code := none }
def k2c1 : Code := { maxStack := 2, maxLocals := 1, code := prog_58_method_7_code, exceptionTable := #[], attributes := #[] }
def k2m1 : Method := { name := "isFlowIndicator", desc := "(I)Z", sig := { parameters := [.int], returnType := some .boolean }, accessFlags := 9, code := some k2c1 }
/-- the callee's class -/
def k2 : Class := { plain own_y1.cls (some 0) with
  accessFlags := 49
  interfaces := #[]
  cf := some (fileOf pool2 36 #[] #[{ accessFlags := 2, nameIndex := 5, descriptorIndex := 6, attributes := #[] }, { accessFlags := 9, nameIndex := 64, descriptorIndex := 49, attributes := #[] }] 49 2 #[] #[{ accessFlags := 25, nameIndex := 89, descriptorIndex := 90, attributes := #[] }, { accessFlags := 26, nameIndex := 93, descriptorIndex := 90, attributes := #[] }, { accessFlags := 25, nameIndex := 95, descriptorIndex := 96, attributes := #[] }, { accessFlags := 26, nameIndex := 97, descriptorIndex := 98, attributes := #[] }, { accessFlags := 26, nameIndex := 99, descriptorIndex := 98, attributes := #[] }, { accessFlags := 26, nameIndex := 87, descriptorIndex := 88, attributes := #[] }])
  fields := #[{ name := "MAX_IMPLICIT_KEY", type := .int, accessFlags := 25, slot := 0, constantValue := 0 }, { name := "MAX_QUOTED", type := .int, accessFlags := 26, slot := 1, constantValue := 0 }, { name := "BYTE_ORDER_MARK", type := .char, accessFlags := 25, slot := 2, constantValue := 0 }, { name := "URI_PUNCTUATION", type := (.object "java/lang/String"), accessFlags := 26, slot := 3, constantValue := 0 }, { name := "ESCAPE_LETTERS", type := (.object "java/lang/String"), accessFlags := 26, slot := 4, constantValue := 0 }, { name := "ESCAPED", type := (.array .char), accessFlags := 26, slot := 5, constantValue := 0 }]
  methods := #[k2m0, k2m1]
  instanceTypes := #[]
  staticTypes := #[.int, .int, .char, (.object "java/lang/String"), (.object "java/lang/String"), (.array .char)]
  resolved := Array.replicate 137 none
  statics := none }

def pool3 : Array CpInfo := pool [(1, u "java/lang/Cloneable"), (0, .class_ 1), (0, u "java/lang/Object"), (0, .class_ 3)] 3

/-- java/lang/Cloneable -/
def k3 : Class := { plain "java/lang/Cloneable" (some 0) with
  accessFlags := 1537
  interfaces := #[]
  cf := some (fileOf pool3 2 #[] #[] 1537 4 #[] #[])
  fields := #[]
  methods := #[]
  instanceTypes := #[]
  staticTypes := #[]
  resolved := Array.replicate 8 none
  statics := none }

def pool4 : Array CpInfo := pool [(1, u "java/io/Serializable"), (0, .class_ 1), (0, u "java/lang/Object"), (0, .class_ 3)] 3

/-- java/io/Serializable -/
def k4 : Class := { plain "java/io/Serializable" (some 0) with
  accessFlags := 1537
  interfaces := #[]
  cf := some (fileOf pool4 2 #[] #[] 1537 4 #[] #[])
  fields := #[]
  methods := #[]
  instanceTypes := #[]
  staticTypes := #[]
  resolved := Array.replicate 8 none
  statics := none }

/-- the primitive byte -/
def k5 : Class := { plain "byte" none with kind := .primitive 'B', accessFlags := 0x411 }
/-- [B -/
def k6 : Class := { plain "[B" (some 0) with kind := .array 5 .byte, interfaces := #[3, 4], accessFlags := 1041 }

/-- the primitive char -/
def k7 : Class := { plain "char" none with kind := .primitive 'C', accessFlags := 0x411 }
/-- [C -/
def k8 : Class := { plain "[C" (some 0) with kind := .array 7 .char, interfaces := #[3, 4], accessFlags := 1041 }

/-- the primitive int -/
def k9 : Class := { plain "int" none with kind := .primitive 'I', accessFlags := 0x411 }
/-- [I -/
def k10 : Class := { plain "[I" (some 0) with kind := .array 9 .int, interfaces := #[3, 4], accessFlags := 1041 }

def heap : Heap := #[]
def classes : Array Class := #[k0, k1, k2, k3, k4, k5, k6, k7, k8, k9, k10]
def interned : List (Array UInt16 × Addr) := []
def slotsUsed : Nat := 0
def theMethod : MethodId := ⟨1, 1⟩
def args0 : Array Value := #[.int 5, .int 7]
def aboutOver (below : List Frame) : State where
  vm := { classes := classes, interned := interned.toArray }
  heap := heap
  slotsUsed := slotsUsed
  threads := #[{ frames := .invoking theMethod args0 :: below }]
def below0 : List Frame := [.native { method := ⟨0, 0⟩, args := #[] }]
def about1 : State := aboutOver below0
def p0 : Program := .bare "" "" ""
def e0 : Env := launch0.env 0 0 0
theorem w_frames : about1.frames = Frame.invoking theMethod args0 :: below0 := rfl
set_option maxRecDepth 65536 in
theorem w_args : argsFit about1.vm theMethod args0 = true := by decide +kernel
set_option maxRecDepth 65536 in
theorem w_heap : heapFits about1 = true := by decide +kernel
set_option maxRecDepth 65536 in
theorem w_runnable : about1.curStatus? = some .runnable := by decide +kernel
set_option maxRecDepth 65536 in
theorem w_alone : about1.alone = true := by decide +kernel
set_option maxRecDepth 65536 in
theorem w_named : about1.methodNamed? x = some theMethod := by decide +kernel
set_option maxRecDepth 65536 in
theorem w_hears : about1.hears theMethod below0 = true := by decide +kernel
set_option maxRecDepth 65536 in
theorem w_ripe : about1.ripe theMethod args0 below0 = true := by decide +kernel
theorem w_running : about1.status = .running := rfl
set_option maxRecDepth 65536 in
theorem w_room : about1.hasRoom e0.platform room_1 = true :=
  launch0.hasRoom_least _ room_1 (by decide +kernel) (by decide +kernel) (by decide +kernel) (by decide +kernel) (by decide +kernel) (by decide +kernel)
theorem allAtoms_all (ts : List Jvm.Cond) (a : Array Jvm.Value) (st : Jvm.State) : (allAtoms ts).before a st = ts.all (fun c => c.before a st) := by
  induction ts with
  | nil => rfl
  | cons c t ih =>
    show (Jvm.Cond.and c (allAtoms t)).before a st = _
    rw [Jvm.Cond.before_and, ih, List.all_cons]
def words1 : List Jvm.Cond := Jvm.Cond.code x code maxLocals ret :: tables_1
/-- a 'code' word, met by the world's own term for the bytes: nothing is compared byte by byte -/
theorem code_word {y : MethodName} {bytes : ByteArray} {mx : Nat} {rt : Option FieldType} {a : Array Value} {s : State} {m : MethodId} {meth : Method} {c : Code} (h1 : s.methodNamed? y = some m) (h2 : s.vm.method? m = some meth) (h3 : meth.code = some c) (h4 : c.code = bytes)
    (h5 : (c.maxLocals == mx && c.exceptionTable.isEmpty && decide (c.maxStack ≤ mostOperands) && decide (meth.sig.returnType = rt) && !meth.locks && decide (parseMethodDescriptor y.desc = some meth.sig)) = true) : (Jvm.Cond.code y bytes mx rt).before a s = true := by
  simp only [Bool.and_eq_true, beq_iff_eq, Bool.not_eq_true', decide_eq_true_eq] at h5
  obtain ⟨⟨⟨⟨⟨g1, g2⟩, g3⟩, g4⟩, g5⟩, g6⟩ := h5
  simp [Cond.before, Cond.holds, Cond.value, h1, h2, h3, h4, g1, g2, g3, g4, g5, g6]
def isCode : Jvm.Cond → Bool
  | .code _ _ _ _ => true
  | _ => false
theorem all_split {L : List Jvm.Cond} {P : Jvm.Cond → Bool} (h1 : L.all (fun c => isCode c || P c) = true) (h2 : ∀ c ∈ L.filter isCode, P c = true) : L.all P = true := by
  refine List.all_eq_true.mpr fun c hc => ?_
  have h := List.all_eq_true.mp h1 c hc
  rcases Bool.eq_false_or_eq_true (isCode c) with hi | hi
  · exact h2 c (List.mem_filter.mpr ⟨hc, hi⟩)
  · simpa [hi] using h
set_option maxRecDepth 65536 in
theorem w_c0 : (Jvm.Cond.code x code maxLocals ret).before args0 about1 = true := code_word (m := ⟨1, 1⟩) (meth := k1m1) (c := k1c1) (by decide +kernel) rfl rfl rfl (by decide +kernel)
set_option maxRecDepth 65536 in
theorem w_c1 : (Jvm.Cond.code ({ cls := own_y1.cls, name := "isFlowIndicator", desc := "(I)Z" } : Jvm.MethodName) prog_58_method_7_code (1 : Nat) (Option.some Jvm.ClassFile.FieldType.boolean)).before args0 about1 = true := code_word (m := ⟨2, 1⟩) (meth := k2m1) (c := k2c1) (by decide +kernel) rfl rfl rfl (by decide +kernel)
set_option maxRecDepth 65536 in
theorem w_c2 : (Jvm.Cond.code ({ cls := x.cls, name := "reference", desc := "(I)Z" } : Jvm.MethodName) method_3_code (2 : Nat) (Option.some Jvm.ClassFile.FieldType.boolean)).before args0 about1 = true := code_word (m := ⟨1, 2⟩) (meth := k1m2) (c := k1c2) (by decide +kernel) rfl rfl rfl (by decide +kernel)
def codes1 : List Jvm.Cond := [Jvm.Cond.code x code maxLocals ret, Jvm.Cond.code ({ cls := own_y1.cls, name := "isFlowIndicator", desc := "(I)Z" } : Jvm.MethodName) prog_58_method_7_code (1 : Nat) (Option.some Jvm.ClassFile.FieldType.boolean), Jvm.Cond.code ({ cls := x.cls, name := "reference", desc := "(I)Z" } : Jvm.MethodName) method_3_code (2 : Nat) (Option.some Jvm.ClassFile.FieldType.boolean)]
set_option maxRecDepth 65536 in
theorem codes_eq : words1.filter isCode = codes1 := rfl
theorem w_codes : ∀ c ∈ words1.filter isCode, c.before args0 about1 = true := by
  rw [codes_eq]
  intro c hc
  simp only [codes1, List.mem_cons, List.not_mem_nil, or_false] at hc
  rcases hc with rfl | rfl | rfl
  · exact w_c0
  · exact w_c1
  · exact w_c2
set_option maxRecDepth 65536 in
theorem w_t1 : words1.all (fun c => isCode c || c.before args0 about1) = true := by decide +kernel
theorem w_tables : (allAtoms (Jvm.Cond.code x code maxLocals ret :: tables_1)).before args0 about1 = true := by
  rw [allAtoms_all]
  show words1.all (fun c => c.before args0 about1) = true
  refine all_split ?_ w_codes
  rw [w_t1]
set_option maxRecDepth 65536 in
theorem w_case : (Jvm.Cond.and given_1 narrow_1).before args0 about1 = true := by decide +kernel
theorem w_applies : (headSpec (Jvm.Cond.code x code maxLocals ret :: tables_1) room_1).applies x e0.platform about1 = true :=
  (Spec.applies_iff w_frames).mpr ⟨w_running, w_runnable, w_alone, w_named, w_hears, w_ripe, w_room, w_tables⟩
theorem atStart : AtStart classFile x code maxLocals ret World_1 tables_1 room_1 Calls_1 rest_1 Pre_1 launch0 p0 e0 about1 theMethod args0 below0 :=
  ⟨lists_1, trivial, launch0.admits_env _ _ _, launch0.least_env, fairChoices_fair.cas, fairChoices_fair.clock, w_frames, w_args, w_heap, w_applies, trivial, trivial, w_case⟩
end start1
theorem witness_1 : WitnessClaimed_1 := ⟨start1.p0, start1.e0, start1.about1, start1.theMethod, start1.args0, start1.below0, start1.atStart⟩
end Jvm.Pilot.@@N@@
