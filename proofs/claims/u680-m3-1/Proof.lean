import JvmDerived
import JvmDerived.Pilot.@@N@@Statement
import JvmDerived.Pilot.@@N@@Code
set_option linter.unusedVariables false
set_option linter.unusedSimpArgs false
namespace Jvm.RoadKit
open Sem ClassFile Op Lib Jvm.Stand Jvm.Free Jvm.LawKit
section New
variable {p : Program} {l : Launch} {e : Env} {R : Room} {s : State} {m : MethodId} {args : Array Value} {below : List Frame} {meth : Method} {c : Code} {T : State} {locs : List Loc} {cells slots : Nat}
theorem retI (X : Stand p l e R s m args below meth c T locs cells slots) (hx : p.tables.exec = Jvm.exec) {pc : Nat} {Ls : Array Slot} {z : Int32} {rest : List Value} (hret : meth.sig.returnType = some .int) (hd : decode c.code pc = .ok (.ireturn, 1)) {fs : List Frame}
    (hl : ∀ (f : JFrame) (acts : List Action), f.method = m → f.locked = none → f.entered = [] → (doReturn e (T.setTop f) acts (some (.int z))).1 = T.setFrames fs) : Steps p.tables e below (T.setTop (mkF m pc Ls (.int z :: rest))) (T.setFrames fs) := by
  have hm' : T.vm.method? m = some meth := X.method'
  have hn : narrow .int (.int z) = .int z := rfl
  show Steps p.tables e below (T.setTop { method := m, pc := pc, locals := Ls, stack := _ :: rest, locked := none }) _
  jvm_step X.here [X.here.top, hx, hd, hm', hret, hn]
  first | (intro acts; rw [hl _ acts rfl rfl rfl]) | rw [hl _ _ rfl rfl rfl]
  exact Steps.refl _
end New
end Jvm.RoadKit
namespace Jvm.Pilot.@@N@@
open Jvm Jvm.ClassFile Sem Op Lib Jvm.Free Jvm.Stand Jvm.LawKit Jvm.RoadKit Bundle Jvm.Pilot.@@N@@.Jvm.D
/-- what is left of a run from the state A: it comes to an end, returns, and leaves what Q says -/
def OwnG (tb : Tables) (e : Env) (below : List Frame) (s : State) (R : Room) (Q : Option Value → Heap → List Loc → Prop) (A : State) : Prop :=
  ∃ s₂ o, Steps tb e below A s₂ ∧ s₂.status = .running ∧ Ended s₂ below o ∧ ∃ v L, o = .returned v ∧ Q v s₂.heap L ∧ FrameEnd s o s₂ L R.cells R.slots
theorem OwnG.go {tb : Tables} {e : Env} {below : List Frame} {s : State} {R : Room} {Q : Option Value → Heap → List Loc → Prop} {A B : State} (st : ∀ t, Steps tb e below A t → Steps tb e below B t) (h : OwnG tb e below s R Q A) : OwnG tb e below s R Q B := by
  obtain ⟨s₂, o, h1, h2⟩ := h
  exact ⟨s₂, o, st _ h1, h2⟩
theorem own_stand {p : Program} {l : Launch} {e : Env} {R : Room} {s : State} {m : MethodId} {args : Array Value} {below : List Frame} {meth : Method} {c : Code} {T : State} {locs : List Loc} {k n k' n' : Nat} (X : Stand p l e R s m args below meth c T locs k n) (h1 : k ≤ k') (h2 : n ≤ n') : Stand p l e R s m args below meth c T locs k' n' :=
  { X with same := X.same.mono h1 h2 }
def own_pick (x f k b : Int32) : Int32 := if ((f >>> (k &&& 31)) &&& (1 : Int32)) = 0 then ((x >>> (((8 : Int32) * k) &&& 31)).toInt8.toInt32).toInt8.toInt32 else b.toInt8.toInt32
def own_hit (i f t v b : Int32) : Int32 := if i < f then 0 else if i < t then (if v = b then 1 else 0) else 0
def own_v (v0 v1 v2 v3 : Int32) : Nat → Int32
  | 0 => v0
  | 1 => v1
  | 2 => v2
  | _ => v3
def own_last (v : Nat → Int32) (f : Nat) (b : Int32) : Nat → Int32
  | 0 => -1
  | k + 1 => if Int32.ofNat k < Int32.ofNat f then -1 else if v k = b then Int32.ofNat k else own_last v f b k
def own_ex (h3 h2 h1 h0 : Int32) : Int32 := if h3 = 0 then (if h2 = 0 then (if h1 = 0 then (if h0 = 0 then -1 else 0) else 1) else 2) else 3
theorem own_five (z : Int32) (h0 : 0 ≤ z.toInt) (h : z.toInt < 5) : ∃ k : Nat, k ≤ 4 ∧ z = Int32.ofNat k := by
  refine ⟨z.toInt.toNat, by omega, ?_⟩
  apply Int32.toInt_inj.mp
  rw [Int32.toInt_ofNat_of_lt (by omega)]
  omega
theorem own_mod5 (z : Int32) (h0 : 0 ≤ z.toInt) : ∃ k : Nat, k ≤ 4 ∧ (z % (5 : Int32)) = Int32.ofNat k := by
  have h1 : (z % (5 : Int32)).toInt = z.toInt % 5 := by
    rw [Int32.toInt_mod, show (5 : Int32).toInt = 5 from rfl, Int.tmod_eq_emod_of_nonneg h0]
  exact own_five _ (by omega) (by omega)
theorem own_from (r : Int32) : ∃ k : Nat, k ≤ 4 ∧ ((r &&& (2147483647 : Int32)) % (5 : Int32)) = Int32.ofNat k := by
  refine own_mod5 _ ?_
  rw [← Int32.toInt_toBitVec, Int32.toBitVec_and]
  have : (r.toBitVec &&& (2147483647 : Int32).toBitVec).msb = false := by
    rw [BitVec.msb_and, show (2147483647 : Int32).toBitVec.msb = false from by decide, Bool.and_false]
  rw [BitVec.toInt_eq_toNat_of_msb this]
  omega
theorem own_to (r : Int32) : ∃ k : Nat, k ≤ 4 ∧ (((r.toUInt32 >>> ((8 : Int32) &&& 31).toUInt32).toInt32) % (5 : Int32)) = Int32.ofNat k := by
  refine own_mod5 _ ?_
  rw [← Int32.toInt_toBitVec]
  have e : ((r.toUInt32 >>> ((8 : Int32) &&& 31).toUInt32).toInt32).toBitVec = r.toBitVec >>> 8 := rfl
  rw [e]
  have : (r.toBitVec >>> 8).msb = false := by
    rw [BitVec.msb_ushiftRight]; simp
  rw [BitVec.toInt_eq_toNat_of_msb this]
  omega
theorem own_sub1 (x : Int32) : x - (1 : Int32) = x + (-1 : Int32) := Int32.sub_eq_add_neg ..
theorem own_pred (k : Nat) : Int32.ofNat (k + 1) + (-1 : Int32) = Int32.ofNat k := by
  rw [Int32.ofNat_add, Int32.add_assoc, show Int32.ofNat 1 + (-1 : Int32) = 0 from by decide, Int32.add_zero]
theorem own_nat {k : Nat} (h : k ≤ 4) : (Int32.ofNat k).toNatClampNeg = k := by
  simp only [Int32.toNatClampNeg]
  rw [Int32.toInt_ofNat_of_lt (by omega)]
  omega
theorem own_nneg {k : Nat} (h : k ≤ 4) : ¬ Int32.ofNat k < 0 := by
  rw [Int32.lt_iff_toInt_lt, Int32.toInt_ofNat_of_lt (by omega)]
  show ¬ (k : Int) < 0
  omega
theorem own_lt4 {k : Nat} (h : k < 4) : Int32.ofNat k < 4 := by
  rw [Int32.lt_iff_toInt_lt, Int32.toInt_ofNat_of_lt (by omega)]
  show (k : Int) < 4
  omega
theorem own_m1 {f : Nat} (h : f ≤ 4) : Int32.ofNat 0 + (-1 : Int32) < Int32.ofNat f := by
  rw [Int32.lt_iff_toInt_lt, Int32.toInt_ofNat_of_lt (by omega)]
  have : (Int32.ofNat 0 + (-1 : Int32)).toInt = -1 := by decide
  omega
theorem own_law (v0 v1 v2 v3 b : Int32) (f t : Nat) (hf : f ≤ 4) (ht : t ≤ 4) :
    own_last (own_v v0 v1 v2 v3) f b t = own_ex (own_hit 3 (Int32.ofNat f) (Int32.ofNat t) v3 b) (own_hit 2 (Int32.ofNat f) (Int32.ofNat t) v2 b) (own_hit 1 (Int32.ofNat f) (Int32.ofNat t) v1 b) (own_hit 0 (Int32.ofNat f) (Int32.ofNat t) v0 b) := by
  have lt : ∀ i j : Nat, i ≤ 4 → j ≤ 4 → (Int32.ofNat i < Int32.ofNat j ↔ i < j) := fun i j hi hj => by
    rw [Int32.lt_iff_toInt_lt, Int32.toInt_ofNat_of_lt (by omega), Int32.toInt_ofNat_of_lt (by omega)]; omega
  have l3 : ∀ j : Nat, j ≤ 4 → ((3 : Int32) < Int32.ofNat j ↔ 3 < j) := fun j hj => lt 3 j (by omega) hj
  have l2 : ∀ j : Nat, j ≤ 4 → ((2 : Int32) < Int32.ofNat j ↔ 2 < j) := fun j hj => lt 2 j (by omega) hj
  have l1 : ∀ j : Nat, j ≤ 4 → ((1 : Int32) < Int32.ofNat j ↔ 1 < j) := fun j hj => lt 1 j (by omega) hj
  have l0 : ∀ j : Nat, j ≤ 4 → ((0 : Int32) < Int32.ofNat j ↔ 0 < j) := fun j hj => lt 0 j (by omega) hj
  have r3 := lt 3 f (by omega) hf
  have r2 := lt 2 f (by omega) hf
  have r1 := lt 1 f (by omega) hf
  have r0 := lt 0 f (by omega) hf
  unfold own_ex own_hit
  simp only [l3 f hf, l2 f hf, l1 f hf, l0 f hf, l3 t ht, l2 t ht, l1 t ht, l0 t ht]
  have cases5 : ∀ n : Nat, n ≤ 4 → n = 0 ∨ n = 1 ∨ n = 2 ∨ n = 3 ∨ n = 4 := by omega
  rcases cases5 t ht with rfl | rfl | rfl | rfl | rfl <;> rcases cases5 f hf with rfl | rfl | rfl | rfl | rfl <;> simp only [own_last, r0, r1, r2, r3, own_v] <;>
    (by_cases e3 : v3 = b <;> by_cases e2 : v2 = b <;> by_cases e1 : v1 = b <;> by_cases e0 : v0 = b <;> simp [e0, e1, e2, e3] <;> first | rfl | decide)
theorem pd_1 : parseMethodDescriptor "(IIIB)B" = some ⟨[.int, .int, .int, .byte], some .byte⟩ := by decide +kernel
theorem pd_2 : parseMethodDescriptor "([BIIIB)Z" = some ⟨[(.array .byte), .int, .int, .int, .byte], some .boolean⟩ := by decide +kernel
theorem pd_3 : parseMethodDescriptor "([BIIB)I" = some ⟨[(.array .byte), .int, .int, .byte], some .int⟩ := by decide +kernel
theorem d1_0 : decode method_2_code 0 = .ok (.iload_n 1, 1) := by decide +kernel
theorem d1_1 : decode method_2_code 1 = .ok (.iload_n 2, 1) := by decide +kernel
theorem d1_2 : decode method_2_code 2 = .ok (.ishr, 1) := by decide +kernel
theorem d1_3 : decode method_2_code 3 = .ok (.iconst 1, 1) := by decide +kernel
theorem d1_4 : decode method_2_code 4 = .ok (.iand, 1) := by decide +kernel
theorem d1_5 : decode method_2_code 5 = .ok (.ifCond .eq 5, 3) := by decide +kernel
theorem d1_8 : decode method_2_code 8 = .ok (.iload_n 3, 1) := by decide +kernel
theorem d1_9 : decode method_2_code 9 = .ok (.ireturn, 1) := by decide +kernel
theorem d1_10 : decode method_2_code 10 = .ok (.iload_n 0, 1) := by decide +kernel
theorem d1_11 : decode method_2_code 11 = .ok (.bipush 8, 2) := by decide +kernel
theorem d1_13 : decode method_2_code 13 = .ok (.iload_n 2, 1) := by decide +kernel
theorem d1_14 : decode method_2_code 14 = .ok (.imul, 1) := by decide +kernel
theorem d1_15 : decode method_2_code 15 = .ok (.ishr, 1) := by decide +kernel
theorem d1_16 : decode method_2_code 16 = .ok (.i2b, 1) := by decide +kernel
theorem d1_17 : decode method_2_code 17 = .ok (.ireturn, 1) := by decide +kernel
theorem pn_1 : plainName "com/example/orderwire/orderwire/DelimitersLastIndexOfPinLaw" = true := by first | (simp [plainName, overriddenIn]; done) | decide +kernel
theorem ef_1 (m : MethodId) (x0 : Int32) (x1 : Int32) (x2 : Int32) (x3 : Int32) : entryFrame m #[(.int x0), (.int x1), (.int x2), (.int x3)] 4 = mkF m 0 #[.val (.int x0), .val (.int x1), .val (.int x2), .val (.int x3)] [] := by first | (simp [entryFrame, mkF, argsToLocals, Value.category]; done) | rfl
def Q1 (Z : State) (p1 p2 p3 p4 : Int32) (h0 : Heap) (n0 : Nat) (v : Option Value) (h : Heap) (L : List Loc) : Prop := v = some (.int (own_pick p1 p2 p3 p4)) ∧ Fr n0 L ∧ h = h0
set_option maxRecDepth 65536 in
set_option maxHeartbeats 40000000 in
theorem rm1 (l : Launch) (Z : State) (a0 : Array Value) (hw : ∀ d ∈ tables_1, d.before a0 Z = true) (ws : List Jvm.Cond) (p1 p2 p3 p4 : Int32) (h0 : Heap) (n0 : Nat) (Z0 : n0 ≤ h0.size)  :
    MetFree l (⟨"com/example/orderwire/orderwire/DelimitersLastIndexOfPinLaw", "pick", "(IIIB)B"⟩ : MethodName) (head1 (Jvm.Cond.code (⟨"com/example/orderwire/orderwire/DelimitersLastIndexOfPinLaw", "pick", "(IIIB)B"⟩ : MethodName) method_2_code 4 (some .byte) :: ws) ({ frames := 0, cells := 0, slots := 0, locals := 0 } : Room)) (fun a U => a = #[(.int p1), (.int p2), (.int p3), (.int p4)] ∧ Z.Warmed39 U.vm ∧ U.heap = h0) (fun _ _ _ _ _ => True) (fun _ U o U' => ∃ v L, o = .returned v ∧ (Q1 Z p1 p2 p3 p4 h0 n0) v U'.heap L ∧ FrameEnd U o U' L ({ frames := 0, cells := 0, slots := 0, locals := 0 } : Room).cells ({ frames := 0, cells := 0, slots := 0, locals := 0 } : Room).slots) := by
  refine MetFree.of_bodySF (plainFor_of_name pn_1) hisR ?_
  intro p e s m args below meth c s₁ Bd hml0 hP hK
  obtain ⟨rfl, hZ, hh⟩ := hP
  have hx := Bd.exec
  have hby := Bd.bytes
  have hml : c.maxLocals = 4 := hml0
  have hown : s.vm.findClass "com/example/orderwire/orderwire/DelimitersLastIndexOfPinLaw" = some m.cls := findClass_of_methodNamed Bd.named
  have hnm := (name_of_methodNamed Bd.named Bd.method).1
  have X0 : Stand p l e ({ frames := 0, cells := 0, slots := 0, locals := 0 } : Room) s m #[(.int p1), (.int p2), (.int p3), (.int p4)] below meth c s₁ [] 0 0 := Stand.of_body Bd
  have e0 : s₁.heap = h0 := by rw [← hh, Bd.state]; rfl
  have N0 := Fr.nil n0
  show OwnG p.tables e below s ({ frames := 0, cells := 0, slots := 0, locals := 0 } : Room) (Q1 Z p1 p2 p3 p4 h0 n0) (s₁.setTop (entryFrame m #[(.int p1), (.int p2), (.int p3), (.int p4)] 4))
  refine OwnG.go (fun tz kz => castTop (ef_1 m p1 p2 p3 p4) kz) ?_
  show OwnG _ _ _ _ _ _ (s₁.setTop (mkF m 0 #[.val (.int p1), .val (.int p2), .val (.int p3), .val (.int p4)] []))
  refine OwnG.go (fun _ kz => XS.iloadN X0.here hx rfl (hb hby d1_0) rfl kz) ?_
  show OwnG _ _ _ _ _ _ (s₁.setTop (mkF m 1 #[.val (.int p1), .val (.int p2), .val (.int p3), .val (.int p4)] [(.int p2)]))
  refine OwnG.go (fun _ kz => XS.iloadN X0.here hx rfl (hb hby d1_1) rfl kz) ?_
  show OwnG _ _ _ _ _ _ (s₁.setTop (mkF m 2 #[.val (.int p1), .val (.int p2), .val (.int p3), .val (.int p4)] [(.int p3), (.int p2)]))
  refine OwnG.go (fun _ kz => XS.ishr X0.here hx rfl (hb hby d1_2) rfl kz) ?_
  show OwnG _ _ _ _ _ _ (s₁.setTop (mkF m 3 #[.val (.int p1), .val (.int p2), .val (.int p3), .val (.int p4)] [(.int (p2 >>> (p3 &&& 31)))]))
  refine OwnG.go (fun _ kz => XS.iconst X0.here hx rfl (hb hby d1_3) kz) ?_
  show OwnG _ _ _ _ _ _ (s₁.setTop (mkF m 4 #[.val (.int p1), .val (.int p2), .val (.int p3), .val (.int p4)] [(.int (1 : Int32)), (.int (p2 >>> (p3 &&& 31)))]))
  refine OwnG.go (fun _ kz => XS.iand X0.here hx rfl (hb hby d1_4) rfl kz) ?_
  show OwnG _ _ _ _ _ _ (s₁.setTop (mkF m 5 #[.val (.int p1), .val (.int p2), .val (.int p3), .val (.int p4)] [(.int ((p2 >>> (p3 &&& 31)) &&& (1 : Int32)))]))
  by_cases c1 : ((p2 >>> (p3 &&& 31)) &&& (1 : Int32)) = (0 : Int32)
  · have _u := ()
    refine OwnG.go (fun _ kz => XS.ifYes X0.here hx rfl (pc0 := 5) (pc' := 10) rfl (hb hby d1_5) rfl ((if0 _ _).trans (teq c1).1) (by decide) (by decide) kz) ?_
    show OwnG _ _ _ _ _ _ (s₁.setTop (mkF m 10 #[.val (.int p1), .val (.int p2), .val (.int p3), .val (.int p4)] []))
    refine OwnG.go (fun _ kz => XS.iloadN X0.here hx rfl (hb hby d1_10) rfl kz) ?_
    show OwnG _ _ _ _ _ _ (s₁.setTop (mkF m 11 #[.val (.int p1), .val (.int p2), .val (.int p3), .val (.int p4)] [(.int p1)]))
    refine OwnG.go (fun _ kz => XS.bipush X0.here hx rfl (hb hby d1_11) kz) ?_
    show OwnG _ _ _ _ _ _ (s₁.setTop (mkF m 13 #[.val (.int p1), .val (.int p2), .val (.int p3), .val (.int p4)] [(.int (8 : Int32)), (.int p1)]))
    refine OwnG.go (fun _ kz => XS.iloadN X0.here hx rfl (hb hby d1_13) rfl kz) ?_
    show OwnG _ _ _ _ _ _ (s₁.setTop (mkF m 14 #[.val (.int p1), .val (.int p2), .val (.int p3), .val (.int p4)] [(.int p3), (.int (8 : Int32)), (.int p1)]))
    refine OwnG.go (fun _ kz => XS.imul X0.here hx rfl (hb hby d1_14) rfl kz) ?_
    show OwnG _ _ _ _ _ _ (s₁.setTop (mkF m 15 #[.val (.int p1), .val (.int p2), .val (.int p3), .val (.int p4)] [(.int ((8 : Int32) * p3)), (.int p1)]))
    refine OwnG.go (fun _ kz => XS.ishr X0.here hx rfl (hb hby d1_15) rfl kz) ?_
    show OwnG _ _ _ _ _ _ (s₁.setTop (mkF m 16 #[.val (.int p1), .val (.int p2), .val (.int p3), .val (.int p4)] [(.int (p1 >>> (((8 : Int32) * p3) &&& 31)))]))
    refine OwnG.go (fun _ kz => XS.i2b X0.here hx rfl (hb hby d1_16) rfl kz) ?_
    show OwnG _ _ _ _ _ _ (s₁.setTop (mkF m 17 #[.val (.int p1), .val (.int p2), .val (.int p3), .val (.int p4)] [(.int ((p1 >>> (((8 : Int32) * p3) &&& 31)).toInt8.toInt32))]))
    obtain ⟨fs, hr, hrun, hended, hW, hsame⟩ := X0.leave (v := some (.int (nar .byte ((p1 >>> (((8 : Int32) * p3) &&& 31)).toInt8.toInt32)))) (fun h => by rw [Bd.returns] at h; cases h)
    refine ⟨_, _, retN X0 hx (t := .byte) Bd.returns (by simp) (hb hby d1_17) hr, hrun, hended, _, _, rfl, ?_, ⟨_, rfl⟩, hW, hsame.mono (by decide) (by decide)⟩
    show (Q1 Z p1 p2 p3 p4 h0 n0) _ s₁.heap _
    rw [e0]
    exact ⟨by rw [own_pick, if_pos c1]; rfl, N0, rfl⟩
  · have _u := ()
    refine OwnG.go (fun _ kz => XS.ifNo X0.here hx rfl (hb hby d1_5) rfl ((if0 _ _).trans (feq c1).1) kz) ?_
    show OwnG _ _ _ _ _ _ (s₁.setTop (mkF m 8 #[.val (.int p1), .val (.int p2), .val (.int p3), .val (.int p4)] []))
    refine OwnG.go (fun _ kz => XS.iloadN X0.here hx rfl (hb hby d1_8) rfl kz) ?_
    show OwnG _ _ _ _ _ _ (s₁.setTop (mkF m 9 #[.val (.int p1), .val (.int p2), .val (.int p3), .val (.int p4)] [(.int p4)]))
    obtain ⟨fs, hr, hrun, hended, hW, hsame⟩ := X0.leave (v := some (.int (nar .byte p4))) (fun h => by rw [Bd.returns] at h; cases h)
    refine ⟨_, _, retN X0 hx (t := .byte) Bd.returns (by simp) (hb hby d1_9) hr, hrun, hended, _, _, rfl, ?_, ⟨_, rfl⟩, hW, hsame.mono (by decide) (by decide)⟩
    show (Q1 Z p1 p2 p3 p4 h0 n0) _ s₁.heap _
    rw [e0]
    exact ⟨by rw [own_pick, if_neg c1]; rfl, N0, rfl⟩
theorem d2_0 : decode method_3_code 0 = .ok (.iload_n 1, 1) := by decide +kernel
theorem d2_1 : decode method_3_code 1 = .ok (.iload_n 2, 1) := by decide +kernel
theorem d2_2 : decode method_3_code 2 = .ok (.if_icmp .lt 20, 3) := by decide +kernel
theorem d2_5 : decode method_3_code 5 = .ok (.iload_n 1, 1) := by decide +kernel
theorem d2_6 : decode method_3_code 6 = .ok (.iload_n 3, 1) := by decide +kernel
theorem d2_7 : decode method_3_code 7 = .ok (.if_icmp .ge 15, 3) := by decide +kernel
theorem d2_10 : decode method_3_code 10 = .ok (.aload_n 0, 1) := by decide +kernel
theorem d2_11 : decode method_3_code 11 = .ok (.iload_n 1, 1) := by decide +kernel
theorem d2_12 : decode method_3_code 12 = .ok (.baload, 1) := by decide +kernel
theorem d2_13 : decode method_3_code 13 = .ok (.iload 4, 2) := by decide +kernel
theorem d2_15 : decode method_3_code 15 = .ok (.if_icmp .ne 7, 3) := by decide +kernel
theorem d2_18 : decode method_3_code 18 = .ok (.iconst 1, 1) := by decide +kernel
theorem d2_19 : decode method_3_code 19 = .ok (.goto 4, 3) := by decide +kernel
theorem d2_22 : decode method_3_code 22 = .ok (.iconst 0, 1) := by decide +kernel
theorem d2_23 : decode method_3_code 23 = .ok (.ireturn, 1) := by decide +kernel
theorem pn_2 : plainName "com/example/orderwire/orderwire/DelimitersLastIndexOfPinLaw" = true := by first | (simp [plainName, overriddenIn]; done) | decide +kernel
theorem ef_2 (m : MethodId) (x0 : Addr) (x1 : Int32) (x2 : Int32) (x3 : Int32) (x4 : Int32) : entryFrame m #[(.ref x0), (.int x1), (.int x2), (.int x3), (.int x4)] 5 = mkF m 0 #[.val (.ref x0), .val (.int x1), .val (.int x2), .val (.int x3), .val (.int x4)] [] := by first | (simp [entryFrame, mkF, argsToLocals, Value.category]; done) | rfl
def Q2 (Z : State) (a1 : Addr) (p2 p3 p4 p5 : Int32) (kk : ClassId) (vs : List Value) (x : Int32) (h0 : Heap) (n0 : Nat) (v : Option Value) (h : Heap) (L : List Loc) : Prop := v = some (.int (own_hit p2 p3 p4 x p5)) ∧ Fr n0 L ∧ h = h0
set_option maxRecDepth 65536 in
set_option maxHeartbeats 40000000 in
theorem rm2 (l : Launch) (Z : State) (a0 : Array Value) (hw : ∀ d ∈ tables_1, d.before a0 Z = true) (ws : List Jvm.Cond) (a1 : Addr) (p2 p3 p4 p5 : Int32) (kk : ClassId) (vs : List Value) (x : Int32) (h0 : Heap) (n0 : Nat) (Z0 : n0 ≤ h0.size) (V1 : Arv Z h0 a1 kk .byte (4 : Int32) vs (.int (0 : Int32))) (hi : ¬ p2 < 0 ∧ p2 < 4) (hv : vs.getD p2.toNatClampNeg (.int (0 : Int32)) = .int x) :
    MetFree l (⟨"com/example/orderwire/orderwire/DelimitersLastIndexOfPinLaw", "hit", "([BIIIB)Z"⟩ : MethodName) (head1 (Jvm.Cond.code (⟨"com/example/orderwire/orderwire/DelimitersLastIndexOfPinLaw", "hit", "([BIIIB)Z"⟩ : MethodName) method_3_code 5 (some .boolean) :: ws) ({ frames := 0, cells := 0, slots := 0, locals := 0 } : Room)) (fun a U => a = #[(.ref a1), (.int p2), (.int p3), (.int p4), (.int p5)] ∧ Z.Warmed39 U.vm ∧ U.heap = h0) (fun _ _ _ _ _ => True) (fun _ U o U' => ∃ v L, o = .returned v ∧ (Q2 Z a1 p2 p3 p4 p5 kk vs x h0 n0) v U'.heap L ∧ FrameEnd U o U' L ({ frames := 0, cells := 0, slots := 0, locals := 0 } : Room).cells ({ frames := 0, cells := 0, slots := 0, locals := 0 } : Room).slots) := by
  refine MetFree.of_bodySF (plainFor_of_name pn_2) hisR ?_
  intro p e s m args below meth c s₁ Bd hml0 hP hK
  obtain ⟨rfl, hZ, hh⟩ := hP
  have hx := Bd.exec
  have hby := Bd.bytes
  have hml : c.maxLocals = 5 := hml0
  have hown : s.vm.findClass "com/example/orderwire/orderwire/DelimitersLastIndexOfPinLaw" = some m.cls := findClass_of_methodNamed Bd.named
  have hnm := (name_of_methodNamed Bd.named Bd.method).1
  have X0 : Stand p l e ({ frames := 0, cells := 0, slots := 0, locals := 0 } : Room) s m #[(.ref a1), (.int p2), (.int p3), (.int p4), (.int p5)] below meth c s₁ [] 0 0 := Stand.of_body Bd
  have e0 : s₁.heap = h0 := by rw [← hh, Bd.state]; rfl
  have N0 := Fr.nil n0
  obtain ⟨cl, Ar, qa, Sa, Na, Ha, Ga⟩ := V1
  have hin : ¬ (p2 < 0 ∨ cl.slots.size ≤ (p2).toNatClampNeg) := inb_of Sa hi
  show OwnG p.tables e below s ({ frames := 0, cells := 0, slots := 0, locals := 0 } : Room) (Q2 Z a1 p2 p3 p4 p5 kk vs x h0 n0) (s₁.setTop (entryFrame m #[(.ref a1), (.int p2), (.int p3), (.int p4), (.int p5)] 5))
  refine OwnG.go (fun tz kz => castTop (ef_2 m a1 p2 p3 p4 p5) kz) ?_
  show OwnG _ _ _ _ _ _ (s₁.setTop (mkF m 0 #[.val (.ref a1), .val (.int p2), .val (.int p3), .val (.int p4), .val (.int p5)] []))
  refine OwnG.go (fun _ kz => XS.iloadN X0.here hx rfl (hb hby d2_0) rfl kz) ?_
  show OwnG _ _ _ _ _ _ (s₁.setTop (mkF m 1 #[.val (.ref a1), .val (.int p2), .val (.int p3), .val (.int p4), .val (.int p5)] [(.int p2)]))
  refine OwnG.go (fun _ kz => XS.iloadN X0.here hx rfl (hb hby d2_1) rfl kz) ?_
  show OwnG _ _ _ _ _ _ (s₁.setTop (mkF m 2 #[.val (.ref a1), .val (.int p2), .val (.int p3), .val (.int p4), .val (.int p5)] [(.int p3), (.int p2)]))
  by_cases c1 : p2 < p3
  · have _u := ()
    refine OwnG.go (fun _ kz => XS.icmpYes X0.here hx rfl (pc0 := 2) (pc' := 22) rfl (hb hby d2_2) rfl (tlt c1).1 (by decide) (by decide) kz) ?_
    show OwnG _ _ _ _ _ _ (s₁.setTop (mkF m 22 #[.val (.ref a1), .val (.int p2), .val (.int p3), .val (.int p4), .val (.int p5)] []))
    refine OwnG.go (fun _ kz => XS.iconst X0.here hx rfl (hb hby d2_22) kz) ?_
    show OwnG _ _ _ _ _ _ (s₁.setTop (mkF m 23 #[.val (.ref a1), .val (.int p2), .val (.int p3), .val (.int p4), .val (.int p5)] [(.int (0 : Int32))]))
    obtain ⟨fs, hr, hrun, hended, hW, hsame⟩ := X0.leave (v := some (.int (0 : Int32))) (fun h => by rw [Bd.returns] at h; cases h)
    refine ⟨_, _, retN X0 hx (t := .boolean) Bd.returns (by simp) (hb hby d2_23) hr, hrun, hended, _, _, rfl, ?_, ⟨_, rfl⟩, hW, hsame.mono (by decide) (by decide)⟩
    show (Q2 Z a1 p2 p3 p4 p5 kk vs x h0 n0) _ s₁.heap _
    rw [e0]
    exact ⟨by simp [own_hit, c1], N0, rfl⟩
  · have _u := ()
    refine OwnG.go (fun _ kz => XS.icmpNo X0.here hx rfl (hb hby d2_2) rfl (flt c1).1 kz) ?_
    show OwnG _ _ _ _ _ _ (s₁.setTop (mkF m 5 #[.val (.ref a1), .val (.int p2), .val (.int p3), .val (.int p4), .val (.int p5)] []))
    refine OwnG.go (fun _ kz => XS.iloadN X0.here hx rfl (hb hby d2_5) rfl kz) ?_
    show OwnG _ _ _ _ _ _ (s₁.setTop (mkF m 6 #[.val (.ref a1), .val (.int p2), .val (.int p3), .val (.int p4), .val (.int p5)] [(.int p2)]))
    refine OwnG.go (fun _ kz => XS.iloadN X0.here hx rfl (hb hby d2_6) rfl kz) ?_
    show OwnG _ _ _ _ _ _ (s₁.setTop (mkF m 7 #[.val (.ref a1), .val (.int p2), .val (.int p3), .val (.int p4), .val (.int p5)] [(.int p4), (.int p2)]))
    by_cases c2 : p2 < p4
    · have _u := ()
      refine OwnG.go (fun _ kz => XS.icmpNo X0.here hx rfl (hb hby d2_7) rfl (tlt c2).2.1 kz) ?_
      show OwnG _ _ _ _ _ _ (s₁.setTop (mkF m 10 #[.val (.ref a1), .val (.int p2), .val (.int p3), .val (.int p4), .val (.int p5)] []))
      refine OwnG.go (fun _ kz => XS.aloadN X0.here hx rfl (hb hby d2_10) rfl rfl kz) ?_
      show OwnG _ _ _ _ _ _ (s₁.setTop (mkF m 11 #[.val (.ref a1), .val (.int p2), .val (.int p3), .val (.int p4), .val (.int p5)] [(.ref a1)]))
      refine OwnG.go (fun _ kz => XS.iloadN X0.here hx rfl (hb hby d2_11) rfl kz) ?_
      show OwnG _ _ _ _ _ _ (s₁.setTop (mkF m 12 #[.val (.ref a1), .val (.int p2), .val (.int p3), .val (.int p4), .val (.int p5)] [(.int p2), (.ref a1)]))
      refine OwnG.go (fun _ kz => X0.baloadBytes hx (j := p2) (v := (.int x)) (by rw [e0]; exact Ar.1) (State.isArrayOf_alike hZ.alike Ar.2.1) Ar.2.2 hin (Has.at Ha hin hv) (g := (mkF m 12 #[.val (.ref a1), .val (.int p2), .val (.int p3), .val (.int p4), .val (.int p5)] [(.int p2), (.ref a1)])) rfl rfl (hb hby d2_12) _ kz) ?_
      show OwnG _ _ _ _ _ _ (s₁.setTop (mkF m 13 #[.val (.ref a1), .val (.int p2), .val (.int p3), .val (.int p4), .val (.int p5)] [(.int x)]))
      refine OwnG.go (fun _ kz => XS.iload X0.here hx rfl (hb hby d2_13) rfl kz) ?_
      show OwnG _ _ _ _ _ _ (s₁.setTop (mkF m 15 #[.val (.ref a1), .val (.int p2), .val (.int p3), .val (.int p4), .val (.int p5)] [(.int p5), (.int x)]))
      by_cases c3 : x = p5
      · have _u := ()
        refine OwnG.go (fun _ kz => XS.icmpNo X0.here hx rfl (hb hby d2_15) rfl (teq c3).2 kz) ?_
        show OwnG _ _ _ _ _ _ (s₁.setTop (mkF m 18 #[.val (.ref a1), .val (.int p2), .val (.int p3), .val (.int p4), .val (.int p5)] []))
        refine OwnG.go (fun _ kz => XS.iconst X0.here hx rfl (hb hby d2_18) kz) ?_
        show OwnG _ _ _ _ _ _ (s₁.setTop (mkF m 19 #[.val (.ref a1), .val (.int p2), .val (.int p3), .val (.int p4), .val (.int p5)] [(.int (1 : Int32))]))
        refine OwnG.go (fun _ kz => XS.goto X0.here hx rfl (pc0 := 19) (pc' := 23) rfl (hb hby d2_19) (by decide) (by decide) kz) ?_
        show OwnG _ _ _ _ _ _ (s₁.setTop (mkF m 23 #[.val (.ref a1), .val (.int p2), .val (.int p3), .val (.int p4), .val (.int p5)] [(.int (1 : Int32))]))
        obtain ⟨fs, hr, hrun, hended, hW, hsame⟩ := X0.leave (v := some (.int (1 : Int32))) (fun h => by rw [Bd.returns] at h; cases h)
        refine ⟨_, _, retN X0 hx (t := .boolean) Bd.returns (by simp) (hb hby d2_23) hr, hrun, hended, _, _, rfl, ?_, ⟨_, rfl⟩, hW, hsame.mono (by decide) (by decide)⟩
        show (Q2 Z a1 p2 p3 p4 p5 kk vs x h0 n0) _ s₁.heap _
        rw [e0]
        exact ⟨by simp [own_hit, c1, c2, c3], N0, rfl⟩
      · have _u := ()
        refine OwnG.go (fun _ kz => XS.icmpYes X0.here hx rfl (pc0 := 15) (pc' := 22) rfl (hb hby d2_15) rfl (feq c3).2 (by decide) (by decide) kz) ?_
        show OwnG _ _ _ _ _ _ (s₁.setTop (mkF m 22 #[.val (.ref a1), .val (.int p2), .val (.int p3), .val (.int p4), .val (.int p5)] []))
        refine OwnG.go (fun _ kz => XS.iconst X0.here hx rfl (hb hby d2_22) kz) ?_
        show OwnG _ _ _ _ _ _ (s₁.setTop (mkF m 23 #[.val (.ref a1), .val (.int p2), .val (.int p3), .val (.int p4), .val (.int p5)] [(.int (0 : Int32))]))
        obtain ⟨fs, hr, hrun, hended, hW, hsame⟩ := X0.leave (v := some (.int (0 : Int32))) (fun h => by rw [Bd.returns] at h; cases h)
        refine ⟨_, _, retN X0 hx (t := .boolean) Bd.returns (by simp) (hb hby d2_23) hr, hrun, hended, _, _, rfl, ?_, ⟨_, rfl⟩, hW, hsame.mono (by decide) (by decide)⟩
        show (Q2 Z a1 p2 p3 p4 p5 kk vs x h0 n0) _ s₁.heap _
        rw [e0]
        exact ⟨by simp [own_hit, c1, c2, c3], N0, rfl⟩
    · have _u := ()
      refine OwnG.go (fun _ kz => XS.icmpYes X0.here hx rfl (pc0 := 7) (pc' := 22) rfl (hb hby d2_7) rfl (flt c2).2.1 (by decide) (by decide) kz) ?_
      show OwnG _ _ _ _ _ _ (s₁.setTop (mkF m 22 #[.val (.ref a1), .val (.int p2), .val (.int p3), .val (.int p4), .val (.int p5)] []))
      refine OwnG.go (fun _ kz => XS.iconst X0.here hx rfl (hb hby d2_22) kz) ?_
      show OwnG _ _ _ _ _ _ (s₁.setTop (mkF m 23 #[.val (.ref a1), .val (.int p2), .val (.int p3), .val (.int p4), .val (.int p5)] [(.int (0 : Int32))]))
      obtain ⟨fs, hr, hrun, hended, hW, hsame⟩ := X0.leave (v := some (.int (0 : Int32))) (fun h => by rw [Bd.returns] at h; cases h)
      refine ⟨_, _, retN X0 hx (t := .boolean) Bd.returns (by simp) (hb hby d2_23) hr, hrun, hended, _, _, rfl, ?_, ⟨_, rfl⟩, hW, hsame.mono (by decide) (by decide)⟩
      show (Q2 Z a1 p2 p3 p4 p5 kk vs x h0 n0) _ s₁.heap _
      rw [e0]
      exact ⟨by simp [own_hit, c1, c2], N0, rfl⟩
theorem d3_0 : decode prog_16_method_17_code 0 = .ok (.iload_n 2, 1) := by decide +kernel
theorem d3_1 : decode prog_16_method_17_code 1 = .ok (.iconst 1, 1) := by decide +kernel
theorem d3_2 : decode prog_16_method_17_code 2 = .ok (.isub, 1) := by decide +kernel
theorem d3_3 : decode prog_16_method_17_code 3 = .ok (.istore 4, 2) := by decide +kernel
theorem d3_5 : decode prog_16_method_17_code 5 = .ok (.iload 4, 2) := by decide +kernel
theorem d3_7 : decode prog_16_method_17_code 7 = .ok (.iload_n 1, 1) := by decide +kernel
theorem d3_8 : decode prog_16_method_17_code 8 = .ok (.if_icmp .lt 20, 3) := by decide +kernel
theorem d3_11 : decode prog_16_method_17_code 11 = .ok (.aload_n 0, 1) := by decide +kernel
theorem d3_12 : decode prog_16_method_17_code 12 = .ok (.iload 4, 2) := by decide +kernel
theorem d3_14 : decode prog_16_method_17_code 14 = .ok (.baload, 1) := by decide +kernel
theorem d3_15 : decode prog_16_method_17_code 15 = .ok (.iload_n 3, 1) := by decide +kernel
theorem d3_16 : decode prog_16_method_17_code 16 = .ok (.if_icmp .ne 6, 3) := by decide +kernel
theorem d3_19 : decode prog_16_method_17_code 19 = .ok (.iload 4, 2) := by decide +kernel
theorem d3_21 : decode prog_16_method_17_code 21 = .ok (.ireturn, 1) := by decide +kernel
theorem d3_22 : decode prog_16_method_17_code 22 = .ok (.iinc 4 (-1), 3) := by decide +kernel
theorem d3_25 : decode prog_16_method_17_code 25 = .ok (.goto (-20), 3) := by decide +kernel
theorem d3_28 : decode prog_16_method_17_code 28 = .ok (.iconst (-1), 1) := by decide +kernel
theorem d3_29 : decode prog_16_method_17_code 29 = .ok (.ireturn, 1) := by decide +kernel
theorem pn_3 : plainName "com/example/orderwire/orderwire/Delimiters" = true := by first | (simp [plainName, overriddenIn]; done) | decide +kernel
theorem ef_3 (m : MethodId) (x0 : Addr) (x1 : Int32) (x2 : Int32) (x3 : Int32) : entryFrame m #[(.ref x0), (.int x1), (.int x2), (.int x3)] 5 = mkF m 0 #[.val (.ref x0), .val (.int x1), .val (.int x2), .val (.int x3), .unset] [] := by first | (simp [entryFrame, mkF, argsToLocals, Value.category]; done) | rfl
def Q3 (Z : State) (a1 : Addr) (fi ti : Nat) (p4 : Int32) (kk : ClassId) (v0 v1 v2 v3 : Int32) (h0 : Heap) (n0 : Nat) (v : Option Value) (h : Heap) (L : List Loc) : Prop := v = some (.int (own_last (own_v v0 v1 v2 v3) fi p4 ti)) ∧ Fr n0 L ∧ h = h0
set_option maxRecDepth 65536 in
set_option maxHeartbeats 40000000 in
theorem rm3 (l : Launch) (Z : State) (a0 : Array Value) (hw : ∀ d ∈ tables_1, d.before a0 Z = true) (ws : List Jvm.Cond) (a1 : Addr) (fi ti : Nat) (p4 : Int32) (kk : ClassId) (v0 v1 v2 v3 : Int32) (h0 : Heap) (n0 : Nat) (Z0 : n0 ≤ h0.size) (V1 : Arv Z h0 a1 kk .byte (4 : Int32) [.int v0, .int v1, .int v2, .int v3] (.int (0 : Int32))) (hfi : fi ≤ 4) (hti : ti ≤ 4) :
    MetFree l (⟨"com/example/orderwire/orderwire/Delimiters", "lastIndexOf", "([BIIB)I"⟩ : MethodName) (head1 (Jvm.Cond.code (⟨"com/example/orderwire/orderwire/Delimiters", "lastIndexOf", "([BIIB)I"⟩ : MethodName) prog_16_method_17_code 5 (some .int) :: ws) ({ frames := 0, cells := 0, slots := 0, locals := 0 } : Room)) (fun a U => a = #[(.ref a1), (.int (Int32.ofNat fi)), (.int (Int32.ofNat ti)), (.int p4)] ∧ Z.Warmed39 U.vm ∧ U.heap = h0) (fun _ _ _ _ _ => True) (fun _ U o U' => ∃ v L, o = .returned v ∧ (Q3 Z a1 fi ti p4 kk v0 v1 v2 v3 h0 n0) v U'.heap L ∧ FrameEnd U o U' L ({ frames := 0, cells := 0, slots := 0, locals := 0 } : Room).cells ({ frames := 0, cells := 0, slots := 0, locals := 0 } : Room).slots) := by
  refine MetFree.of_bodySF (plainFor_of_name pn_3) hisR ?_
  intro p e s m args below meth c s₁ Bd hml0 hP hK
  obtain ⟨rfl, hZ, hh⟩ := hP
  have hx := Bd.exec
  have hby := Bd.bytes
  have hml : c.maxLocals = 5 := hml0
  have hown : s.vm.findClass "com/example/orderwire/orderwire/Delimiters" = some m.cls := findClass_of_methodNamed Bd.named
  have hnm := (name_of_methodNamed Bd.named Bd.method).1
  have X0 : Stand p l e ({ frames := 0, cells := 0, slots := 0, locals := 0 } : Room) s m #[(.ref a1), (.int (Int32.ofNat fi)), (.int (Int32.ofNat ti)), (.int p4)] below meth c s₁ [] 0 0 := Stand.of_body Bd
  have e0 : s₁.heap = h0 := by rw [← hh, Bd.state]; rfl
  have N0 := Fr.nil n0
  obtain ⟨cl, Ar, qa, Sa, Na, Ha, Ga⟩ := V1
  have B5 : ∀ n : Nat, n ≤ 4 → own_last (own_v v0 v1 v2 v3) fi p4 n = own_last (own_v v0 v1 v2 v3) fi p4 ti → OwnG p.tables e below s ({ frames := 0, cells := 0, slots := 0, locals := 0 } : Room) (Q3 Z a1 fi ti p4 kk v0 v1 v2 v3 h0 n0) (s₁.setTop (mkF m 5 #[.val (.ref a1), .val (.int (Int32.ofNat fi)), .val (.int (Int32.ofNat ti)), .val (.int p4), .val (.int (Int32.ofNat n + (-1 : Int32)))] [])) := by
    intro n
    induction n with
    | zero =>
      intro hn hq
      show OwnG _ _ _ _ _ _ (s₁.setTop (mkF m 5 #[.val (.ref a1), .val (.int (Int32.ofNat fi)), .val (.int (Int32.ofNat ti)), .val (.int p4), .val (.int (Int32.ofNat 0 + (-1 : Int32)))] []))
      refine OwnG.go (fun _ kz => XS.iload X0.here hx rfl (hb hby d3_5) rfl kz) ?_
      show OwnG _ _ _ _ _ _ (s₁.setTop (mkF m 7 #[.val (.ref a1), .val (.int (Int32.ofNat fi)), .val (.int (Int32.ofNat ti)), .val (.int p4), .val (.int (Int32.ofNat 0 + (-1 : Int32)))] [(.int (Int32.ofNat 0 + (-1 : Int32)))]))
      refine OwnG.go (fun _ kz => XS.iloadN X0.here hx rfl (hb hby d3_7) rfl kz) ?_
      show OwnG _ _ _ _ _ _ (s₁.setTop (mkF m 8 #[.val (.ref a1), .val (.int (Int32.ofNat fi)), .val (.int (Int32.ofNat ti)), .val (.int p4), .val (.int (Int32.ofNat 0 + (-1 : Int32)))] [(.int (Int32.ofNat fi)), (.int (Int32.ofNat 0 + (-1 : Int32)))]))
      refine OwnG.go (fun _ kz => XS.icmpYes X0.here hx rfl (pc0 := 8) (pc' := 28) rfl (hb hby d3_8) rfl (tlt (own_m1 hfi)).1 (by decide) (by decide) kz) ?_
      show OwnG _ _ _ _ _ _ (s₁.setTop (mkF m 28 #[.val (.ref a1), .val (.int (Int32.ofNat fi)), .val (.int (Int32.ofNat ti)), .val (.int p4), .val (.int (Int32.ofNat 0 + (-1 : Int32)))] []))
      refine OwnG.go (fun _ kz => XS.iconst X0.here hx rfl (hb hby d3_28) kz) ?_
      show OwnG _ _ _ _ _ _ (s₁.setTop (mkF m 29 #[.val (.ref a1), .val (.int (Int32.ofNat fi)), .val (.int (Int32.ofNat ti)), .val (.int p4), .val (.int (Int32.ofNat 0 + (-1 : Int32)))] [(.int (-1 : Int32))]))
      obtain ⟨fs, hr, hrun, hended, hW, hsame⟩ := X0.leave (v := some (.int (-1 : Int32))) (fun h => by rw [Bd.returns] at h; cases h)
      refine ⟨_, _, retI X0 hx Bd.returns (hb hby d3_29) hr, hrun, hended, _, _, rfl, ?_, ⟨_, rfl⟩, hW, hsame.mono (by decide) (by decide)⟩
      show (Q3 Z a1 fi ti p4 kk v0 v1 v2 v3 h0 n0) _ s₁.heap _
      rw [e0]
      exact ⟨by rw [← hq]; rfl, N0, rfl⟩
    | succ n ih =>
      intro hn hq
      rw [own_pred]
      show OwnG _ _ _ _ _ _ (s₁.setTop (mkF m 5 #[.val (.ref a1), .val (.int (Int32.ofNat fi)), .val (.int (Int32.ofNat ti)), .val (.int p4), .val (.int (Int32.ofNat n))] []))
      refine OwnG.go (fun _ kz => XS.iload X0.here hx rfl (hb hby d3_5) rfl kz) ?_
      show OwnG _ _ _ _ _ _ (s₁.setTop (mkF m 7 #[.val (.ref a1), .val (.int (Int32.ofNat fi)), .val (.int (Int32.ofNat ti)), .val (.int p4), .val (.int (Int32.ofNat n))] [(.int (Int32.ofNat n))]))
      refine OwnG.go (fun _ kz => XS.iloadN X0.here hx rfl (hb hby d3_7) rfl kz) ?_
      show OwnG _ _ _ _ _ _ (s₁.setTop (mkF m 8 #[.val (.ref a1), .val (.int (Int32.ofNat fi)), .val (.int (Int32.ofNat ti)), .val (.int p4), .val (.int (Int32.ofNat n))] [(.int (Int32.ofNat fi)), (.int (Int32.ofNat n))]))
      by_cases c1 : (Int32.ofNat n) < (Int32.ofNat fi)
      · have _u := ()
        refine OwnG.go (fun _ kz => XS.icmpYes X0.here hx rfl (pc0 := 8) (pc' := 28) rfl (hb hby d3_8) rfl (tlt c1).1 (by decide) (by decide) kz) ?_
        show OwnG _ _ _ _ _ _ (s₁.setTop (mkF m 28 #[.val (.ref a1), .val (.int (Int32.ofNat fi)), .val (.int (Int32.ofNat ti)), .val (.int p4), .val (.int (Int32.ofNat n))] []))
        refine OwnG.go (fun _ kz => XS.iconst X0.here hx rfl (hb hby d3_28) kz) ?_
        show OwnG _ _ _ _ _ _ (s₁.setTop (mkF m 29 #[.val (.ref a1), .val (.int (Int32.ofNat fi)), .val (.int (Int32.ofNat ti)), .val (.int p4), .val (.int (Int32.ofNat n))] [(.int (-1 : Int32))]))
        obtain ⟨fs, hr, hrun, hended, hW, hsame⟩ := X0.leave (v := some (.int (-1 : Int32))) (fun h => by rw [Bd.returns] at h; cases h)
        refine ⟨_, _, retI X0 hx Bd.returns (hb hby d3_29) hr, hrun, hended, _, _, rfl, ?_, ⟨_, rfl⟩, hW, hsame.mono (by decide) (by decide)⟩
        show (Q3 Z a1 fi ti p4 kk v0 v1 v2 v3 h0 n0) _ s₁.heap _
        rw [e0]
        exact ⟨by rw [← hq, own_last, if_pos c1], N0, rfl⟩
      · have _u := ()
        refine OwnG.go (fun _ kz => XS.icmpNo X0.here hx rfl (hb hby d3_8) rfl (flt c1).1 kz) ?_
        show OwnG _ _ _ _ _ _ (s₁.setTop (mkF m 11 #[.val (.ref a1), .val (.int (Int32.ofNat fi)), .val (.int (Int32.ofNat ti)), .val (.int p4), .val (.int (Int32.ofNat n))] []))
        have hin : ¬ (Int32.ofNat n < 0 ∨ cl.slots.size ≤ (Int32.ofNat n).toNatClampNeg) := inb_of Sa ⟨own_nneg (by omega), own_lt4 (by omega)⟩
        have hat : ([.int v0, .int v1, .int v2, .int v3] : List Value).getD (Int32.ofNat n).toNatClampNeg (.int (0 : Int32)) = .int ((own_v v0 v1 v2 v3) n) := by
          rw [own_nat (by omega)]
          match n, hn with
          | 0, _ => rfl
          | 1, _ => rfl
          | 2, _ => rfl
          | 3, _ => rfl
        refine OwnG.go (fun _ kz => XS.aloadN X0.here hx rfl (hb hby d3_11) rfl rfl kz) ?_
        show OwnG _ _ _ _ _ _ (s₁.setTop (mkF m 12 #[.val (.ref a1), .val (.int (Int32.ofNat fi)), .val (.int (Int32.ofNat ti)), .val (.int p4), .val (.int (Int32.ofNat n))] [(.ref a1)]))
        refine OwnG.go (fun _ kz => XS.iload X0.here hx rfl (hb hby d3_12) rfl kz) ?_
        show OwnG _ _ _ _ _ _ (s₁.setTop (mkF m 14 #[.val (.ref a1), .val (.int (Int32.ofNat fi)), .val (.int (Int32.ofNat ti)), .val (.int p4), .val (.int (Int32.ofNat n))] [(.int (Int32.ofNat n)), (.ref a1)]))
        refine OwnG.go (fun _ kz => X0.baloadBytes hx (j := (Int32.ofNat n)) (v := (.int ((own_v v0 v1 v2 v3) n))) (by rw [e0]; exact Ar.1) (State.isArrayOf_alike hZ.alike Ar.2.1) Ar.2.2 hin (Has.at Ha hin hat) (g := (mkF m 14 #[.val (.ref a1), .val (.int (Int32.ofNat fi)), .val (.int (Int32.ofNat ti)), .val (.int p4), .val (.int (Int32.ofNat n))] [(.int (Int32.ofNat n)), (.ref a1)])) rfl rfl (hb hby d3_14) _ kz) ?_
        show OwnG _ _ _ _ _ _ (s₁.setTop (mkF m 15 #[.val (.ref a1), .val (.int (Int32.ofNat fi)), .val (.int (Int32.ofNat ti)), .val (.int p4), .val (.int (Int32.ofNat n))] [(.int ((own_v v0 v1 v2 v3) n))]))
        refine OwnG.go (fun _ kz => XS.iloadN X0.here hx rfl (hb hby d3_15) rfl kz) ?_
        show OwnG _ _ _ _ _ _ (s₁.setTop (mkF m 16 #[.val (.ref a1), .val (.int (Int32.ofNat fi)), .val (.int (Int32.ofNat ti)), .val (.int p4), .val (.int (Int32.ofNat n))] [(.int p4), (.int ((own_v v0 v1 v2 v3) n))]))
        by_cases c2 : ((own_v v0 v1 v2 v3) n) = p4
        · have _u := ()
          refine OwnG.go (fun _ kz => XS.icmpNo X0.here hx rfl (hb hby d3_16) rfl (teq c2).2 kz) ?_
          show OwnG _ _ _ _ _ _ (s₁.setTop (mkF m 19 #[.val (.ref a1), .val (.int (Int32.ofNat fi)), .val (.int (Int32.ofNat ti)), .val (.int p4), .val (.int (Int32.ofNat n))] []))
          refine OwnG.go (fun _ kz => XS.iload X0.here hx rfl (hb hby d3_19) rfl kz) ?_
          show OwnG _ _ _ _ _ _ (s₁.setTop (mkF m 21 #[.val (.ref a1), .val (.int (Int32.ofNat fi)), .val (.int (Int32.ofNat ti)), .val (.int p4), .val (.int (Int32.ofNat n))] [(.int (Int32.ofNat n))]))
          obtain ⟨fs, hr, hrun, hended, hW, hsame⟩ := X0.leave (v := some (.int (Int32.ofNat n))) (fun h => by rw [Bd.returns] at h; cases h)
          refine ⟨_, _, retI X0 hx Bd.returns (hb hby d3_21) hr, hrun, hended, _, _, rfl, ?_, ⟨_, rfl⟩, hW, hsame.mono (by decide) (by decide)⟩
          show (Q3 Z a1 fi ti p4 kk v0 v1 v2 v3 h0 n0) _ s₁.heap _
          rw [e0]
          exact ⟨by rw [← hq, own_last, if_neg c1, if_pos c2], N0, rfl⟩
        · have _u := ()
          refine OwnG.go (fun _ kz => XS.icmpYes X0.here hx rfl (pc0 := 16) (pc' := 22) rfl (hb hby d3_16) rfl (feq c2).2 (by decide) (by decide) kz) ?_
          show OwnG _ _ _ _ _ _ (s₁.setTop (mkF m 22 #[.val (.ref a1), .val (.int (Int32.ofNat fi)), .val (.int (Int32.ofNat ti)), .val (.int p4), .val (.int (Int32.ofNat n))] []))
          refine OwnG.go (fun _ kz => XS.iinc X0.here hx rfl (hb hby d3_22) rfl (l' := #[.val (.ref a1), .val (.int (Int32.ofNat fi)), .val (.int (Int32.ofNat ti)), .val (.int p4), .val (.int ((Int32.ofNat n) + (-1 : Int32)))]) rfl kz) ?_
          show OwnG _ _ _ _ _ _ (s₁.setTop (mkF m 25 #[.val (.ref a1), .val (.int (Int32.ofNat fi)), .val (.int (Int32.ofNat ti)), .val (.int p4), .val (.int ((Int32.ofNat n) + (-1 : Int32)))] []))
          refine OwnG.go (fun _ kz => XS.goto X0.here hx rfl (pc0 := 25) (pc' := 5) rfl (hb hby d3_25) (by decide) (by decide) kz) ?_
          show OwnG _ _ _ _ _ _ (s₁.setTop (mkF m 5 #[.val (.ref a1), .val (.int (Int32.ofNat fi)), .val (.int (Int32.ofNat ti)), .val (.int p4), .val (.int ((Int32.ofNat n) + (-1 : Int32)))] []))
          exact ih (by omega) (by rw [← hq, own_last, if_neg c1, if_neg c2])
  show OwnG p.tables e below s ({ frames := 0, cells := 0, slots := 0, locals := 0 } : Room) (Q3 Z a1 fi ti p4 kk v0 v1 v2 v3 h0 n0) (s₁.setTop (entryFrame m #[(.ref a1), (.int (Int32.ofNat fi)), (.int (Int32.ofNat ti)), (.int p4)] 5))
  refine OwnG.go (fun tz kz => castTop (ef_3 m a1 (Int32.ofNat fi) (Int32.ofNat ti) p4) kz) ?_
  show OwnG _ _ _ _ _ _ (s₁.setTop (mkF m 0 #[.val (.ref a1), .val (.int (Int32.ofNat fi)), .val (.int (Int32.ofNat ti)), .val (.int p4), .unset] []))
  refine OwnG.go (fun _ kz => XS.iloadN X0.here hx rfl (hb hby d3_0) rfl kz) ?_
  show OwnG _ _ _ _ _ _ (s₁.setTop (mkF m 1 #[.val (.ref a1), .val (.int (Int32.ofNat fi)), .val (.int (Int32.ofNat ti)), .val (.int p4), .unset] [(.int (Int32.ofNat ti))]))
  refine OwnG.go (fun _ kz => XS.iconst X0.here hx rfl (hb hby d3_1) kz) ?_
  show OwnG _ _ _ _ _ _ (s₁.setTop (mkF m 2 #[.val (.ref a1), .val (.int (Int32.ofNat fi)), .val (.int (Int32.ofNat ti)), .val (.int p4), .unset] [(.int (1 : Int32)), (.int (Int32.ofNat ti))]))
  refine OwnG.go (fun _ kz => XS.isub X0.here hx rfl (hb hby d3_2) rfl kz) ?_
  show OwnG _ _ _ _ _ _ (s₁.setTop (mkF m 3 #[.val (.ref a1), .val (.int (Int32.ofNat fi)), .val (.int (Int32.ofNat ti)), .val (.int p4), .unset] [(.int ((Int32.ofNat ti) - (1 : Int32)))]))
  rw [own_sub1]
  show OwnG _ _ _ _ _ _ (s₁.setTop (mkF m 3 #[.val (.ref a1), .val (.int (Int32.ofNat fi)), .val (.int (Int32.ofNat ti)), .val (.int p4), .unset] [(.int (Int32.ofNat ti + (-1 : Int32)))]))
  refine OwnG.go (fun _ kz => XS.istore X0.here hx rfl (hb hby d3_3) rfl (l' := #[.val (.ref a1), .val (.int (Int32.ofNat fi)), .val (.int (Int32.ofNat ti)), .val (.int p4), .val (.int (Int32.ofNat ti + (-1 : Int32)))]) rfl kz) ?_
  show OwnG _ _ _ _ _ _ (s₁.setTop (mkF m 5 #[.val (.ref a1), .val (.int (Int32.ofNat fi)), .val (.int (Int32.ofNat ti)), .val (.int p4), .val (.int (Int32.ofNat ti + (-1 : Int32)))] []))
  exact B5 ti hti rfl
theorem pn_0 : plainName "com/example/orderwire/orderwire/DelimitersLastIndexOfPinLaw" = true := by first | (simp [plainName, overriddenIn]; done) | decide +kernel
theorem ef_0 (m : MethodId) (x0 : Int32) (x1 : Int32) (x2 : Int32) (x3 : Int32) : entryFrame m #[(.int x0), (.int x1), (.int x2), (.int x3)] maxLocals = mkF m 0 #[.val (.int x0), .val (.int x1), .val (.int x2), .val (.int x3), .unset, .unset, .unset, .unset, .unset, .unset] [] := by first | (simp [entryFrame, mkF, argsToLocals, Value.category, maxLocals]; done) | rfl
def Q0 (Z : State) (p1 p2 p3 p4 : Int32) (h0 : Heap) (n0 : Nat) (v : Option Value) (h : Heap) (L : List Loc) : Prop := v = some (.int (1 : Int32)) ∧ Fr n0 L
set_option maxRecDepth 65536 in
set_option maxHeartbeats 40000000 in
theorem rm0 (l : Launch) (Z : State) (a0 : Array Value) (hw : ∀ d ∈ tables_1, d.before a0 Z = true) (ws : List Jvm.Cond) (p1 p2 p3 p4 : Int32) (h0 : Heap) (n0 : Nat) (Z0 : n0 ≤ h0.size)  :
    MetFree l x (head1 (Jvm.Cond.code x code maxLocals ret :: ws) room_1) (fun a U => a = #[(.int p1), (.int p2), (.int p3), (.int p4)] ∧ Z.Warmed39 U.vm ∧ U.heap = h0) (fun _ _ _ _ _ => True) (fun _ U o U' => ∃ v L, o = .returned v ∧ (Q0 Z p1 p2 p3 p4 h0 n0) v U'.heap L ∧ FrameEnd U o U' L room_1.cells room_1.slots) := by
  refine MetFree.of_bodySF (plainFor_of_name pn_0) hisR ?_
  intro p e s m args below meth c s₁ Bd hml0 hP hK
  obtain ⟨rfl, hZ, hh⟩ := hP
  have hx := Bd.exec
  have hby := Bd.bytes
  have hml : c.maxLocals = 10 := hml0
  have hown : s.vm.findClass "com/example/orderwire/orderwire/DelimitersLastIndexOfPinLaw" = some m.cls := findClass_of_methodNamed Bd.named
  have hnm := (name_of_methodNamed Bd.named Bd.method).1
  have X0 : Stand p l e room_1 s m #[(.int p1), (.int p2), (.int p3), (.int p4)] below meth c s₁ [] 0 0 := Stand.of_body Bd
  have e0 : s₁.heap = h0 := by rw [← hh, Bd.state]; rfl
  have N0 := Fr.nil n0
  show OwnG p.tables e below s room_1 (Q0 Z p1 p2 p3 p4 h0 n0) (s₁.setTop (entryFrame m #[(.int p1), (.int p2), (.int p3), (.int p4)] maxLocals))
  refine OwnG.go (fun tz kz => castTop (ef_0 m p1 p2 p3 p4) kz) ?_
  show OwnG _ _ _ _ _ _ (s₁.setTop (mkF m 0 #[.val (.int p1), .val (.int p2), .val (.int p3), .val (.int p4), .unset, .unset, .unset, .unset, .unset, .unset] []))
  refine OwnG.go (fun _ kz => XS.iloadN X0.here hx rfl (hb hby at_0) rfl kz) ?_
  show OwnG _ _ _ _ _ _ (s₁.setTop (mkF m 1 #[.val (.int p1), .val (.int p2), .val (.int p3), .val (.int p4), .unset, .unset, .unset, .unset, .unset, .unset] [(.int p4)]))
  refine OwnG.go (fun _ kz => XS.i2b X0.here hx rfl (hb hby at_1) rfl kz) ?_
  show OwnG _ _ _ _ _ _ (s₁.setTop (mkF m 2 #[.val (.int p1), .val (.int p2), .val (.int p3), .val (.int p4), .unset, .unset, .unset, .unset, .unset, .unset] [(.int (p4.toInt8.toInt32))]))
  refine OwnG.go (fun _ kz => XS.istore X0.here hx rfl (hb hby at_2) rfl (l' := #[.val (.int p1), .val (.int p2), .val (.int p3), .val (.int p4), .val (.int (p4.toInt8.toInt32)), .unset, .unset, .unset, .unset, .unset]) rfl kz) ?_
  show OwnG _ _ _ _ _ _ (s₁.setTop (mkF m 4 #[.val (.int p1), .val (.int p2), .val (.int p3), .val (.int p4), .val (.int (p4.toInt8.toInt32)), .unset, .unset, .unset, .unset, .unset] []))
  refine OwnG.go (fun _ kz => XS.iconst X0.here hx rfl (hb hby at_4) kz) ?_
  show OwnG _ _ _ _ _ _ (s₁.setTop (mkF m 5 #[.val (.int p1), .val (.int p2), .val (.int p3), .val (.int p4), .val (.int (p4.toInt8.toInt32)), .unset, .unset, .unset, .unset, .unset] [(.int (4 : Int32))]))
  obtain ⟨T1, h1, k1, X1, e1, E1, A1, st1⟩ := newP X0 hx hZ (hw _ (List.mem_of_getElem? (i := 0) rfl)) e0 (g := (mkF m 5 #[.val (.int p1), .val (.int p2), .val (.int p3), .val (.int p4), .val (.int (p4.toInt8.toInt32)), .unset, .unset, .unset, .unset, .unset] [(.int (4 : Int32))])) rfl (hb hby at_5) rfl (by decide) (cap := 4) (by decide) (by decide) (by decide) (by decide)
  obtain ⟨b1, g1⟩ : ∃ z, z = h0.size := ⟨_, rfl⟩
  rw [← g1] at A1 st1
  refine OwnG.go st1 ?_
  show OwnG _ _ _ _ _ _ (T1.setTop (mkF m 7 #[.val (.int p1), .val (.int p2), .val (.int p3), .val (.int p4), .val (.int (p4.toInt8.toInt32)), .unset, .unset, .unset, .unset, .unset] [(.ref b1)]))
  have V_1 : Arv Z h1 b1 k1 .byte (4 : Int32) [.int 0, .int 0, .int 0, .int 0] (.int (0 : Int32)) := (Arv.new A1 (by decide)).pad (pad_rep [] (.int (0 : Int32)) 4)
  have ga : n0 ≤ b1 := Nat.le_trans Z0 (Nat.le_of_eq g1.symm)
  have Z_1 : n0 ≤ h1.size := Nat.le_trans Z0 E1.1
  refine OwnG.go (fun _ kz => XS.astore X1.here hx rfl (hb hby at_7) rfl rfl (l' := #[.val (.int p1), .val (.int p2), .val (.int p3), .val (.int p4), .val (.int (p4.toInt8.toInt32)), .val (.ref b1), .unset, .unset, .unset, .unset]) rfl kz) ?_
  show OwnG _ _ _ _ _ _ (T1.setTop (mkF m 9 #[.val (.int p1), .val (.int p2), .val (.int p3), .val (.int p4), .val (.int (p4.toInt8.toInt32)), .val (.ref b1), .unset, .unset, .unset, .unset] []))
  refine OwnG.go (fun _ kz => XS.aload X1.here hx rfl (hb hby at_9) rfl rfl kz) ?_
  show OwnG _ _ _ _ _ _ (T1.setTop (mkF m 11 #[.val (.int p1), .val (.int p2), .val (.int p3), .val (.int p4), .val (.int (p4.toInt8.toInt32)), .val (.ref b1), .unset, .unset, .unset, .unset] [(.ref b1)]))
  refine OwnG.go (fun _ kz => XS.iconst X1.here hx rfl (hb hby at_11) kz) ?_
  show OwnG _ _ _ _ _ _ (T1.setTop (mkF m 12 #[.val (.int p1), .val (.int p2), .val (.int p3), .val (.int p4), .val (.int (p4.toInt8.toInt32)), .val (.ref b1), .unset, .unset, .unset, .unset] [(.int (0 : Int32)), (.ref b1)]))
  refine OwnG.go (fun _ kz => XS.iloadN X1.here hx rfl (hb hby at_12) rfl kz) ?_
  show OwnG _ _ _ _ _ _ (T1.setTop (mkF m 13 #[.val (.int p1), .val (.int p2), .val (.int p3), .val (.int p4), .val (.int (p4.toInt8.toInt32)), .val (.ref b1), .unset, .unset, .unset, .unset] [(.int p1), (.int (0 : Int32)), (.ref b1)]))
  refine OwnG.go (fun _ kz => XS.iloadN X1.here hx rfl (hb hby at_13) rfl kz) ?_
  show OwnG _ _ _ _ _ _ (T1.setTop (mkF m 14 #[.val (.int p1), .val (.int p2), .val (.int p3), .val (.int p4), .val (.int (p4.toInt8.toInt32)), .val (.ref b1), .unset, .unset, .unset, .unset] [(.int p2), (.int p1), (.int (0 : Int32)), (.ref b1)]))
  refine OwnG.go (fun _ kz => XS.iconst X1.here hx rfl (hb hby at_14) kz) ?_
  show OwnG _ _ _ _ _ _ (T1.setTop (mkF m 15 #[.val (.int p1), .val (.int p2), .val (.int p3), .val (.int p4), .val (.int (p4.toInt8.toInt32)), .val (.ref b1), .unset, .unset, .unset, .unset] [(.int (0 : Int32)), (.int p2), (.int p1), (.int (0 : Int32)), (.ref b1)]))
  refine OwnG.go (fun _ kz => XS.iload X1.here hx rfl (hb hby at_15) rfl kz) ?_
  show OwnG _ _ _ _ _ _ (T1.setTop (mkF m 17 #[.val (.int p1), .val (.int p2), .val (.int p3), .val (.int p4), .val (.int (p4.toInt8.toInt32)), .val (.ref b1), .unset, .unset, .unset, .unset] [(.int (p4.toInt8.toInt32)), (.int (0 : Int32)), (.int p2), (.int p1), (.int (0 : Int32)), (.ref b1)]))
  obtain ⟨_, _, ⟨T2, L2, k2, n2⟩, -, X2, ⟨Lc2, hQ2, l2, y2, z2⟩, st2⟩ := Jvm.LawKit.callS X1 hx (y := (⟨"com/example/orderwire/orderwire/DelimitersLastIndexOfPinLaw", "pick", "(IIIB)B"⟩ : MethodName)) hown (mvT hZ (hw _ (List.mem_of_getElem? (i := 1) rfl))) (mvT hZ (hw _ (List.mem_of_getElem? (i := 2) rfl))) (mvT hZ (hw _ (List.mem_of_getElem? (i := 3) rfl))) (mvT hZ (hw _ (List.mem_of_getElem? (i := 4) rfl))) (by decide) (backOf (W := 2) (rm1 l Z a0 hw [] p1 p2 (0 : Int32) (p4.toInt8.toInt32) h1 n0 Z_1) hZ (hw _ (List.mem_of_getElem? (i := 4) rfl)) (hw _ (List.mem_of_getElem? (i := 3) rfl)) (by decide) (by decide)) (g := (mkF m 17 #[.val (.int p1), .val (.int p2), .val (.int p3), .val (.int p4), .val (.int (p4.toInt8.toInt32)), .val (.ref b1), .unset, .unset, .unset, .unset] [(.int (p4.toInt8.toInt32)), (.int (0 : Int32)), (.int p2), (.int p1), (.int (0 : Int32)), (.ref b1)])) rfl (by rw [hml]; rfl) (argsL := [(.int p1), (.int p2), (.int (0 : Int32)), (.int (p4.toInt8.toInt32))]) (rest := [(.int (0 : Int32)), (.ref b1)]) (lenOf pd_1 rfl) rfl (by show 2 * 0 + _ ≤ _; exact Nat.le_of_eq rfl) (hb hby at_17) (fun _ _ => ⟨rfl, e1, (by decide : 1 + 0 ≤ _), (by decide : 4 + 0 ≤ _)⟩)
  dsimp only [Pt.U, Pt.locs, Pt.cells, Pt.slots] at X2 l2 y2 z2 st2 hQ2
  subst l2 y2 z2
  obtain ⟨rfl, N2q, hh2⟩ := hQ2
  have N2 := Fr.app N0 N2q
  refine OwnG.go (fun tz kz => st2 tz kz) ?_
  show OwnG _ _ _ _ _ _ (T2.setTop (mkF m 20 #[.val (.int p1), .val (.int p2), .val (.int p3), .val (.int p4), .val (.int (p4.toInt8.toInt32)), .val (.ref b1), .unset, .unset, .unset, .unset] [(.int (own_pick p1 p2 (0 : Int32) (p4.toInt8.toInt32))), (.int (0 : Int32)), (.ref b1)]))
  obtain ⟨cl0, Ar0, qa0, Sa0, Na0, Ha0, Ga0⟩ := V_1
  have hin0 : ¬ ((0 : Int32) < 0 ∨ cl0.slots.size ≤ ((0 : Int32)).toNatClampNeg) := inb_of Sa0 ⟨by decide, by decide⟩
  obtain ⟨T3, h3, X3, e3, W3, st3⟩ := stB X2 hx hZ hh2 Ar0 (j := (0 : Int32)) hin0 (g := (mkF m 20 #[.val (.int p1), .val (.int p2), .val (.int p3), .val (.int p4), .val (.int (p4.toInt8.toInt32)), .val (.ref b1), .unset, .unset, .unset, .unset] [(.int (own_pick p1 p2 (0 : Int32) (p4.toInt8.toInt32))), (.int (0 : Int32)), (.ref b1)])) rfl rfl (hb hby at_20)
  have N3 := Fr.snoc X3 N2 ga
  refine OwnG.go st3 ?_
  show OwnG _ _ _ _ _ _ (T3.setTop (mkF m 21 #[.val (.int p1), .val (.int p2), .val (.int p3), .val (.int p4), .val (.int (p4.toInt8.toInt32)), .val (.ref b1), .unset, .unset, .unset, .unset] []))
  have V_3 := Arv.set Ar0 qa0 Sa0 Na0 Ha0 Ga0 (fits_nar_byte _) W3 0 rfl (Nat.le_of_ble_eq_true rfl)
  have Z_3 : n0 ≤ h3.size := Nat.le_trans Z_1 (Keep.of_wr W3).1
  refine OwnG.go (fun _ kz => XS.aload X3.here hx rfl (hb hby at_21) rfl rfl kz) ?_
  show OwnG _ _ _ _ _ _ (T3.setTop (mkF m 23 #[.val (.int p1), .val (.int p2), .val (.int p3), .val (.int p4), .val (.int (p4.toInt8.toInt32)), .val (.ref b1), .unset, .unset, .unset, .unset] [(.ref b1)]))
  refine OwnG.go (fun _ kz => XS.iconst X3.here hx rfl (hb hby at_23) kz) ?_
  show OwnG _ _ _ _ _ _ (T3.setTop (mkF m 24 #[.val (.int p1), .val (.int p2), .val (.int p3), .val (.int p4), .val (.int (p4.toInt8.toInt32)), .val (.ref b1), .unset, .unset, .unset, .unset] [(.int (1 : Int32)), (.ref b1)]))
  refine OwnG.go (fun _ kz => XS.iloadN X3.here hx rfl (hb hby at_24) rfl kz) ?_
  show OwnG _ _ _ _ _ _ (T3.setTop (mkF m 25 #[.val (.int p1), .val (.int p2), .val (.int p3), .val (.int p4), .val (.int (p4.toInt8.toInt32)), .val (.ref b1), .unset, .unset, .unset, .unset] [(.int p1), (.int (1 : Int32)), (.ref b1)]))
  refine OwnG.go (fun _ kz => XS.iloadN X3.here hx rfl (hb hby at_25) rfl kz) ?_
  show OwnG _ _ _ _ _ _ (T3.setTop (mkF m 26 #[.val (.int p1), .val (.int p2), .val (.int p3), .val (.int p4), .val (.int (p4.toInt8.toInt32)), .val (.ref b1), .unset, .unset, .unset, .unset] [(.int p2), (.int p1), (.int (1 : Int32)), (.ref b1)]))
  refine OwnG.go (fun _ kz => XS.iconst X3.here hx rfl (hb hby at_26) kz) ?_
  show OwnG _ _ _ _ _ _ (T3.setTop (mkF m 27 #[.val (.int p1), .val (.int p2), .val (.int p3), .val (.int p4), .val (.int (p4.toInt8.toInt32)), .val (.ref b1), .unset, .unset, .unset, .unset] [(.int (1 : Int32)), (.int p2), (.int p1), (.int (1 : Int32)), (.ref b1)]))
  refine OwnG.go (fun _ kz => XS.iload X3.here hx rfl (hb hby at_27) rfl kz) ?_
  show OwnG _ _ _ _ _ _ (T3.setTop (mkF m 29 #[.val (.int p1), .val (.int p2), .val (.int p3), .val (.int p4), .val (.int (p4.toInt8.toInt32)), .val (.ref b1), .unset, .unset, .unset, .unset] [(.int (p4.toInt8.toInt32)), (.int (1 : Int32)), (.int p2), (.int p1), (.int (1 : Int32)), (.ref b1)]))
  obtain ⟨_, _, ⟨T4, L4, k4, n4⟩, -, X4, ⟨Lc4, hQ4, l4, y4, z4⟩, st4⟩ := Jvm.LawKit.callS X3 hx (y := (⟨"com/example/orderwire/orderwire/DelimitersLastIndexOfPinLaw", "pick", "(IIIB)B"⟩ : MethodName)) hown (mvT hZ (hw _ (List.mem_of_getElem? (i := 1) rfl))) (mvT hZ (hw _ (List.mem_of_getElem? (i := 2) rfl))) (mvT hZ (hw _ (List.mem_of_getElem? (i := 3) rfl))) (mvT hZ (hw _ (List.mem_of_getElem? (i := 4) rfl))) (by decide) (backOf (W := 2) (rm1 l Z a0 hw [] p1 p2 (1 : Int32) (p4.toInt8.toInt32) h3 n0 Z_3) hZ (hw _ (List.mem_of_getElem? (i := 4) rfl)) (hw _ (List.mem_of_getElem? (i := 3) rfl)) (by decide) (by decide)) (g := (mkF m 29 #[.val (.int p1), .val (.int p2), .val (.int p3), .val (.int p4), .val (.int (p4.toInt8.toInt32)), .val (.ref b1), .unset, .unset, .unset, .unset] [(.int (p4.toInt8.toInt32)), (.int (1 : Int32)), (.int p2), (.int p1), (.int (1 : Int32)), (.ref b1)])) rfl (by rw [hml]; rfl) (argsL := [(.int p1), (.int p2), (.int (1 : Int32)), (.int (p4.toInt8.toInt32))]) (rest := [(.int (1 : Int32)), (.ref b1)]) (lenOf pd_1 rfl) rfl (by show 2 * 0 + _ ≤ _; exact Nat.le_of_eq rfl) (hb hby at_29) (fun _ _ => ⟨rfl, e3, (by decide : 1 + 0 ≤ _), (by decide : 4 + 0 ≤ _)⟩)
  dsimp only [Pt.U, Pt.locs, Pt.cells, Pt.slots] at X4 l4 y4 z4 st4 hQ4
  subst l4 y4 z4
  obtain ⟨rfl, N4q, hh4⟩ := hQ4
  have N4 := Fr.app N3 N4q
  refine OwnG.go (fun tz kz => st4 tz kz) ?_
  show OwnG _ _ _ _ _ _ (T4.setTop (mkF m 32 #[.val (.int p1), .val (.int p2), .val (.int p3), .val (.int p4), .val (.int (p4.toInt8.toInt32)), .val (.ref b1), .unset, .unset, .unset, .unset] [(.int (own_pick p1 p2 (1 : Int32) (p4.toInt8.toInt32))), (.int (1 : Int32)), (.ref b1)]))
  obtain ⟨cl1, Ar1, qa1, Sa1, Na1, Ha1, Ga1⟩ := V_3
  have hin1 : ¬ ((1 : Int32) < 0 ∨ cl1.slots.size ≤ ((1 : Int32)).toNatClampNeg) := inb_of Sa1 ⟨by decide, by decide⟩
  obtain ⟨T5, h5, X5, e5, W5, st5⟩ := stB X4 hx hZ hh4 Ar1 (j := (1 : Int32)) hin1 (g := (mkF m 32 #[.val (.int p1), .val (.int p2), .val (.int p3), .val (.int p4), .val (.int (p4.toInt8.toInt32)), .val (.ref b1), .unset, .unset, .unset, .unset] [(.int (own_pick p1 p2 (1 : Int32) (p4.toInt8.toInt32))), (.int (1 : Int32)), (.ref b1)])) rfl rfl (hb hby at_32)
  have N5 := Fr.snoc X5 N4 ga
  refine OwnG.go st5 ?_
  show OwnG _ _ _ _ _ _ (T5.setTop (mkF m 33 #[.val (.int p1), .val (.int p2), .val (.int p3), .val (.int p4), .val (.int (p4.toInt8.toInt32)), .val (.ref b1), .unset, .unset, .unset, .unset] []))
  have V_5 := Arv.set Ar1 qa1 Sa1 Na1 Ha1 Ga1 (fits_nar_byte _) W5 1 rfl (Nat.le_of_ble_eq_true rfl)
  have Z_5 : n0 ≤ h5.size := Nat.le_trans Z_3 (Keep.of_wr W5).1
  refine OwnG.go (fun _ kz => XS.aload X5.here hx rfl (hb hby at_33) rfl rfl kz) ?_
  show OwnG _ _ _ _ _ _ (T5.setTop (mkF m 35 #[.val (.int p1), .val (.int p2), .val (.int p3), .val (.int p4), .val (.int (p4.toInt8.toInt32)), .val (.ref b1), .unset, .unset, .unset, .unset] [(.ref b1)]))
  refine OwnG.go (fun _ kz => XS.iconst X5.here hx rfl (hb hby at_35) kz) ?_
  show OwnG _ _ _ _ _ _ (T5.setTop (mkF m 36 #[.val (.int p1), .val (.int p2), .val (.int p3), .val (.int p4), .val (.int (p4.toInt8.toInt32)), .val (.ref b1), .unset, .unset, .unset, .unset] [(.int (2 : Int32)), (.ref b1)]))
  refine OwnG.go (fun _ kz => XS.iloadN X5.here hx rfl (hb hby at_36) rfl kz) ?_
  show OwnG _ _ _ _ _ _ (T5.setTop (mkF m 37 #[.val (.int p1), .val (.int p2), .val (.int p3), .val (.int p4), .val (.int (p4.toInt8.toInt32)), .val (.ref b1), .unset, .unset, .unset, .unset] [(.int p1), (.int (2 : Int32)), (.ref b1)]))
  refine OwnG.go (fun _ kz => XS.iloadN X5.here hx rfl (hb hby at_37) rfl kz) ?_
  show OwnG _ _ _ _ _ _ (T5.setTop (mkF m 38 #[.val (.int p1), .val (.int p2), .val (.int p3), .val (.int p4), .val (.int (p4.toInt8.toInt32)), .val (.ref b1), .unset, .unset, .unset, .unset] [(.int p2), (.int p1), (.int (2 : Int32)), (.ref b1)]))
  refine OwnG.go (fun _ kz => XS.iconst X5.here hx rfl (hb hby at_38) kz) ?_
  show OwnG _ _ _ _ _ _ (T5.setTop (mkF m 39 #[.val (.int p1), .val (.int p2), .val (.int p3), .val (.int p4), .val (.int (p4.toInt8.toInt32)), .val (.ref b1), .unset, .unset, .unset, .unset] [(.int (2 : Int32)), (.int p2), (.int p1), (.int (2 : Int32)), (.ref b1)]))
  refine OwnG.go (fun _ kz => XS.iload X5.here hx rfl (hb hby at_39) rfl kz) ?_
  show OwnG _ _ _ _ _ _ (T5.setTop (mkF m 41 #[.val (.int p1), .val (.int p2), .val (.int p3), .val (.int p4), .val (.int (p4.toInt8.toInt32)), .val (.ref b1), .unset, .unset, .unset, .unset] [(.int (p4.toInt8.toInt32)), (.int (2 : Int32)), (.int p2), (.int p1), (.int (2 : Int32)), (.ref b1)]))
  obtain ⟨_, _, ⟨T6, L6, k6, n6⟩, -, X6, ⟨Lc6, hQ6, l6, y6, z6⟩, st6⟩ := Jvm.LawKit.callS X5 hx (y := (⟨"com/example/orderwire/orderwire/DelimitersLastIndexOfPinLaw", "pick", "(IIIB)B"⟩ : MethodName)) hown (mvT hZ (hw _ (List.mem_of_getElem? (i := 1) rfl))) (mvT hZ (hw _ (List.mem_of_getElem? (i := 2) rfl))) (mvT hZ (hw _ (List.mem_of_getElem? (i := 3) rfl))) (mvT hZ (hw _ (List.mem_of_getElem? (i := 4) rfl))) (by decide) (backOf (W := 2) (rm1 l Z a0 hw [] p1 p2 (2 : Int32) (p4.toInt8.toInt32) h5 n0 Z_5) hZ (hw _ (List.mem_of_getElem? (i := 4) rfl)) (hw _ (List.mem_of_getElem? (i := 3) rfl)) (by decide) (by decide)) (g := (mkF m 41 #[.val (.int p1), .val (.int p2), .val (.int p3), .val (.int p4), .val (.int (p4.toInt8.toInt32)), .val (.ref b1), .unset, .unset, .unset, .unset] [(.int (p4.toInt8.toInt32)), (.int (2 : Int32)), (.int p2), (.int p1), (.int (2 : Int32)), (.ref b1)])) rfl (by rw [hml]; rfl) (argsL := [(.int p1), (.int p2), (.int (2 : Int32)), (.int (p4.toInt8.toInt32))]) (rest := [(.int (2 : Int32)), (.ref b1)]) (lenOf pd_1 rfl) rfl (by show 2 * 0 + _ ≤ _; exact Nat.le_of_eq rfl) (hb hby at_41) (fun _ _ => ⟨rfl, e5, (by decide : 1 + 0 ≤ _), (by decide : 4 + 0 ≤ _)⟩)
  dsimp only [Pt.U, Pt.locs, Pt.cells, Pt.slots] at X6 l6 y6 z6 st6 hQ6
  subst l6 y6 z6
  obtain ⟨rfl, N6q, hh6⟩ := hQ6
  have N6 := Fr.app N5 N6q
  refine OwnG.go (fun tz kz => st6 tz kz) ?_
  show OwnG _ _ _ _ _ _ (T6.setTop (mkF m 44 #[.val (.int p1), .val (.int p2), .val (.int p3), .val (.int p4), .val (.int (p4.toInt8.toInt32)), .val (.ref b1), .unset, .unset, .unset, .unset] [(.int (own_pick p1 p2 (2 : Int32) (p4.toInt8.toInt32))), (.int (2 : Int32)), (.ref b1)]))
  obtain ⟨cl2, Ar2, qa2, Sa2, Na2, Ha2, Ga2⟩ := V_5
  have hin2 : ¬ ((2 : Int32) < 0 ∨ cl2.slots.size ≤ ((2 : Int32)).toNatClampNeg) := inb_of Sa2 ⟨by decide, by decide⟩
  obtain ⟨T7, h7, X7, e7, W7, st7⟩ := stB X6 hx hZ hh6 Ar2 (j := (2 : Int32)) hin2 (g := (mkF m 44 #[.val (.int p1), .val (.int p2), .val (.int p3), .val (.int p4), .val (.int (p4.toInt8.toInt32)), .val (.ref b1), .unset, .unset, .unset, .unset] [(.int (own_pick p1 p2 (2 : Int32) (p4.toInt8.toInt32))), (.int (2 : Int32)), (.ref b1)])) rfl rfl (hb hby at_44)
  have N7 := Fr.snoc X7 N6 ga
  refine OwnG.go st7 ?_
  show OwnG _ _ _ _ _ _ (T7.setTop (mkF m 45 #[.val (.int p1), .val (.int p2), .val (.int p3), .val (.int p4), .val (.int (p4.toInt8.toInt32)), .val (.ref b1), .unset, .unset, .unset, .unset] []))
  have V_7 := Arv.set Ar2 qa2 Sa2 Na2 Ha2 Ga2 (fits_nar_byte _) W7 2 rfl (Nat.le_of_ble_eq_true rfl)
  have Z_7 : n0 ≤ h7.size := Nat.le_trans Z_5 (Keep.of_wr W7).1
  refine OwnG.go (fun _ kz => XS.aload X7.here hx rfl (hb hby at_45) rfl rfl kz) ?_
  show OwnG _ _ _ _ _ _ (T7.setTop (mkF m 47 #[.val (.int p1), .val (.int p2), .val (.int p3), .val (.int p4), .val (.int (p4.toInt8.toInt32)), .val (.ref b1), .unset, .unset, .unset, .unset] [(.ref b1)]))
  refine OwnG.go (fun _ kz => XS.iconst X7.here hx rfl (hb hby at_47) kz) ?_
  show OwnG _ _ _ _ _ _ (T7.setTop (mkF m 48 #[.val (.int p1), .val (.int p2), .val (.int p3), .val (.int p4), .val (.int (p4.toInt8.toInt32)), .val (.ref b1), .unset, .unset, .unset, .unset] [(.int (3 : Int32)), (.ref b1)]))
  refine OwnG.go (fun _ kz => XS.iloadN X7.here hx rfl (hb hby at_48) rfl kz) ?_
  show OwnG _ _ _ _ _ _ (T7.setTop (mkF m 49 #[.val (.int p1), .val (.int p2), .val (.int p3), .val (.int p4), .val (.int (p4.toInt8.toInt32)), .val (.ref b1), .unset, .unset, .unset, .unset] [(.int p1), (.int (3 : Int32)), (.ref b1)]))
  refine OwnG.go (fun _ kz => XS.iloadN X7.here hx rfl (hb hby at_49) rfl kz) ?_
  show OwnG _ _ _ _ _ _ (T7.setTop (mkF m 50 #[.val (.int p1), .val (.int p2), .val (.int p3), .val (.int p4), .val (.int (p4.toInt8.toInt32)), .val (.ref b1), .unset, .unset, .unset, .unset] [(.int p2), (.int p1), (.int (3 : Int32)), (.ref b1)]))
  refine OwnG.go (fun _ kz => XS.iconst X7.here hx rfl (hb hby at_50) kz) ?_
  show OwnG _ _ _ _ _ _ (T7.setTop (mkF m 51 #[.val (.int p1), .val (.int p2), .val (.int p3), .val (.int p4), .val (.int (p4.toInt8.toInt32)), .val (.ref b1), .unset, .unset, .unset, .unset] [(.int (3 : Int32)), (.int p2), (.int p1), (.int (3 : Int32)), (.ref b1)]))
  refine OwnG.go (fun _ kz => XS.iload X7.here hx rfl (hb hby at_51) rfl kz) ?_
  show OwnG _ _ _ _ _ _ (T7.setTop (mkF m 53 #[.val (.int p1), .val (.int p2), .val (.int p3), .val (.int p4), .val (.int (p4.toInt8.toInt32)), .val (.ref b1), .unset, .unset, .unset, .unset] [(.int (p4.toInt8.toInt32)), (.int (3 : Int32)), (.int p2), (.int p1), (.int (3 : Int32)), (.ref b1)]))
  obtain ⟨_, _, ⟨T8, L8, k8, n8⟩, -, X8, ⟨Lc8, hQ8, l8, y8, z8⟩, st8⟩ := Jvm.LawKit.callS X7 hx (y := (⟨"com/example/orderwire/orderwire/DelimitersLastIndexOfPinLaw", "pick", "(IIIB)B"⟩ : MethodName)) hown (mvT hZ (hw _ (List.mem_of_getElem? (i := 1) rfl))) (mvT hZ (hw _ (List.mem_of_getElem? (i := 2) rfl))) (mvT hZ (hw _ (List.mem_of_getElem? (i := 3) rfl))) (mvT hZ (hw _ (List.mem_of_getElem? (i := 4) rfl))) (by decide) (backOf (W := 2) (rm1 l Z a0 hw [] p1 p2 (3 : Int32) (p4.toInt8.toInt32) h7 n0 Z_7) hZ (hw _ (List.mem_of_getElem? (i := 4) rfl)) (hw _ (List.mem_of_getElem? (i := 3) rfl)) (by decide) (by decide)) (g := (mkF m 53 #[.val (.int p1), .val (.int p2), .val (.int p3), .val (.int p4), .val (.int (p4.toInt8.toInt32)), .val (.ref b1), .unset, .unset, .unset, .unset] [(.int (p4.toInt8.toInt32)), (.int (3 : Int32)), (.int p2), (.int p1), (.int (3 : Int32)), (.ref b1)])) rfl (by rw [hml]; rfl) (argsL := [(.int p1), (.int p2), (.int (3 : Int32)), (.int (p4.toInt8.toInt32))]) (rest := [(.int (3 : Int32)), (.ref b1)]) (lenOf pd_1 rfl) rfl (by show 2 * 0 + _ ≤ _; exact Nat.le_of_eq rfl) (hb hby at_53) (fun _ _ => ⟨rfl, e7, (by decide : 1 + 0 ≤ _), (by decide : 4 + 0 ≤ _)⟩)
  dsimp only [Pt.U, Pt.locs, Pt.cells, Pt.slots] at X8 l8 y8 z8 st8 hQ8
  subst l8 y8 z8
  obtain ⟨rfl, N8q, hh8⟩ := hQ8
  have N8 := Fr.app N7 N8q
  refine OwnG.go (fun tz kz => st8 tz kz) ?_
  show OwnG _ _ _ _ _ _ (T8.setTop (mkF m 56 #[.val (.int p1), .val (.int p2), .val (.int p3), .val (.int p4), .val (.int (p4.toInt8.toInt32)), .val (.ref b1), .unset, .unset, .unset, .unset] [(.int (own_pick p1 p2 (3 : Int32) (p4.toInt8.toInt32))), (.int (3 : Int32)), (.ref b1)]))
  obtain ⟨cl3, Ar3, qa3, Sa3, Na3, Ha3, Ga3⟩ := V_7
  have hin3 : ¬ ((3 : Int32) < 0 ∨ cl3.slots.size ≤ ((3 : Int32)).toNatClampNeg) := inb_of Sa3 ⟨by decide, by decide⟩
  obtain ⟨T9, h9, X9, e9, W9, st9⟩ := stB X8 hx hZ hh8 Ar3 (j := (3 : Int32)) hin3 (g := (mkF m 56 #[.val (.int p1), .val (.int p2), .val (.int p3), .val (.int p4), .val (.int (p4.toInt8.toInt32)), .val (.ref b1), .unset, .unset, .unset, .unset] [(.int (own_pick p1 p2 (3 : Int32) (p4.toInt8.toInt32))), (.int (3 : Int32)), (.ref b1)])) rfl rfl (hb hby at_56)
  have N9 := Fr.snoc X9 N8 ga
  refine OwnG.go st9 ?_
  show OwnG _ _ _ _ _ _ (T9.setTop (mkF m 57 #[.val (.int p1), .val (.int p2), .val (.int p3), .val (.int p4), .val (.int (p4.toInt8.toInt32)), .val (.ref b1), .unset, .unset, .unset, .unset] []))
  have V_9 := Arv.set Ar3 qa3 Sa3 Na3 Ha3 Ga3 (fits_nar_byte _) W9 3 rfl (Nat.le_of_ble_eq_true rfl)
  have Z_9 : n0 ≤ h9.size := Nat.le_trans Z_7 (Keep.of_wr W9).1
  obtain ⟨v0, v1, v2, v3, Vf⟩ : ∃ v0 v1 v2 v3 : Int32, Arv Z h9 b1 k1 .byte (4 : Int32) [.int v0, .int v1, .int v2, .int v3] (.int (0 : Int32)) := ⟨_, _, _, _, V_9⟩
  refine OwnG.go (fun _ kz => XS.iloadN X9.here hx rfl (hb hby at_57) rfl kz) ?_
  show OwnG _ _ _ _ _ _ (T9.setTop (mkF m 58 #[.val (.int p1), .val (.int p2), .val (.int p3), .val (.int p4), .val (.int (p4.toInt8.toInt32)), .val (.ref b1), .unset, .unset, .unset, .unset] [(.int p3)]))
  refine OwnG.go (fun _ kz => X9.ldcInt hx hown (mvT hZ (hw _ (List.mem_of_getElem? (i := 5) rfl))) (g := (mkF m 58 #[.val (.int p1), .val (.int p2), .val (.int p3), .val (.int p4), .val (.int (p4.toInt8.toInt32)), .val (.ref b1), .unset, .unset, .unset, .unset] [(.int p3)])) rfl (hb hby at_58) _ kz) ?_
  show OwnG _ _ _ _ _ _ (T9.setTop (mkF m 60 #[.val (.int p1), .val (.int p2), .val (.int p3), .val (.int p4), .val (.int (p4.toInt8.toInt32)), .val (.ref b1), .unset, .unset, .unset, .unset] [(.int (2147483647 : Int32)), (.int p3)]))
  refine OwnG.go (fun _ kz => XS.iand X9.here hx rfl (hb hby at_60) rfl kz) ?_
  show OwnG _ _ _ _ _ _ (T9.setTop (mkF m 61 #[.val (.int p1), .val (.int p2), .val (.int p3), .val (.int p4), .val (.int (p4.toInt8.toInt32)), .val (.ref b1), .unset, .unset, .unset, .unset] [(.int (p3 &&& (2147483647 : Int32)))]))
  refine OwnG.go (fun _ kz => XS.iconst X9.here hx rfl (hb hby at_61) kz) ?_
  show OwnG _ _ _ _ _ _ (T9.setTop (mkF m 62 #[.val (.int p1), .val (.int p2), .val (.int p3), .val (.int p4), .val (.int (p4.toInt8.toInt32)), .val (.ref b1), .unset, .unset, .unset, .unset] [(.int (5 : Int32)), (.int (p3 &&& (2147483647 : Int32)))]))
  refine OwnG.go (fun _ kz => iremM X9 hx rfl (hb hby at_62) rfl (by decide) kz) ?_
  show OwnG _ _ _ _ _ _ (T9.setTop (mkF m 63 #[.val (.int p1), .val (.int p2), .val (.int p3), .val (.int p4), .val (.int (p4.toInt8.toInt32)), .val (.ref b1), .unset, .unset, .unset, .unset] [(.int ((p3 &&& (2147483647 : Int32)) % (5 : Int32)))]))
  obtain ⟨fi, hfi, efi⟩ := own_from p3
  rw [efi]
  show OwnG _ _ _ _ _ _ (T9.setTop (mkF m 63 #[.val (.int p1), .val (.int p2), .val (.int p3), .val (.int p4), .val (.int (p4.toInt8.toInt32)), .val (.ref b1), .unset, .unset, .unset, .unset] [(.int (Int32.ofNat fi))]))
  refine OwnG.go (fun _ kz => XS.istore X9.here hx rfl (hb hby at_63) rfl (l' := #[.val (.int p1), .val (.int p2), .val (.int p3), .val (.int p4), .val (.int (p4.toInt8.toInt32)), .val (.ref b1), .val (.int (Int32.ofNat fi)), .unset, .unset, .unset]) rfl kz) ?_
  show OwnG _ _ _ _ _ _ (T9.setTop (mkF m 65 #[.val (.int p1), .val (.int p2), .val (.int p3), .val (.int p4), .val (.int (p4.toInt8.toInt32)), .val (.ref b1), .val (.int (Int32.ofNat fi)), .unset, .unset, .unset] []))
  refine OwnG.go (fun _ kz => XS.iloadN X9.here hx rfl (hb hby at_65) rfl kz) ?_
  show OwnG _ _ _ _ _ _ (T9.setTop (mkF m 66 #[.val (.int p1), .val (.int p2), .val (.int p3), .val (.int p4), .val (.int (p4.toInt8.toInt32)), .val (.ref b1), .val (.int (Int32.ofNat fi)), .unset, .unset, .unset] [(.int p3)]))
  refine OwnG.go (fun _ kz => XS.bipush X9.here hx rfl (hb hby at_66) kz) ?_
  show OwnG _ _ _ _ _ _ (T9.setTop (mkF m 68 #[.val (.int p1), .val (.int p2), .val (.int p3), .val (.int p4), .val (.int (p4.toInt8.toInt32)), .val (.ref b1), .val (.int (Int32.ofNat fi)), .unset, .unset, .unset] [(.int (8 : Int32)), (.int p3)]))
  refine OwnG.go (fun _ kz => XS.iushr X9.here hx rfl (hb hby at_68) rfl kz) ?_
  show OwnG _ _ _ _ _ _ (T9.setTop (mkF m 69 #[.val (.int p1), .val (.int p2), .val (.int p3), .val (.int p4), .val (.int (p4.toInt8.toInt32)), .val (.ref b1), .val (.int (Int32.ofNat fi)), .unset, .unset, .unset] [(.int ((p3.toUInt32 >>> ((8 : Int32) &&& 31).toUInt32).toInt32))]))
  refine OwnG.go (fun _ kz => XS.iconst X9.here hx rfl (hb hby at_69) kz) ?_
  show OwnG _ _ _ _ _ _ (T9.setTop (mkF m 70 #[.val (.int p1), .val (.int p2), .val (.int p3), .val (.int p4), .val (.int (p4.toInt8.toInt32)), .val (.ref b1), .val (.int (Int32.ofNat fi)), .unset, .unset, .unset] [(.int (5 : Int32)), (.int ((p3.toUInt32 >>> ((8 : Int32) &&& 31).toUInt32).toInt32))]))
  refine OwnG.go (fun _ kz => iremM X9 hx rfl (hb hby at_70) rfl (by decide) kz) ?_
  show OwnG _ _ _ _ _ _ (T9.setTop (mkF m 71 #[.val (.int p1), .val (.int p2), .val (.int p3), .val (.int p4), .val (.int (p4.toInt8.toInt32)), .val (.ref b1), .val (.int (Int32.ofNat fi)), .unset, .unset, .unset] [(.int (((p3.toUInt32 >>> ((8 : Int32) &&& 31).toUInt32).toInt32) % (5 : Int32)))]))
  obtain ⟨ti, hti, eti⟩ := own_to p3
  rw [eti]
  show OwnG _ _ _ _ _ _ (T9.setTop (mkF m 71 #[.val (.int p1), .val (.int p2), .val (.int p3), .val (.int p4), .val (.int (p4.toInt8.toInt32)), .val (.ref b1), .val (.int (Int32.ofNat fi)), .unset, .unset, .unset] [(.int (Int32.ofNat ti))]))
  refine OwnG.go (fun _ kz => XS.istore X9.here hx rfl (hb hby at_71) rfl (l' := #[.val (.int p1), .val (.int p2), .val (.int p3), .val (.int p4), .val (.int (p4.toInt8.toInt32)), .val (.ref b1), .val (.int (Int32.ofNat fi)), .val (.int (Int32.ofNat ti)), .unset, .unset]) rfl kz) ?_
  show OwnG _ _ _ _ _ _ (T9.setTop (mkF m 73 #[.val (.int p1), .val (.int p2), .val (.int p3), .val (.int p4), .val (.int (p4.toInt8.toInt32)), .val (.ref b1), .val (.int (Int32.ofNat fi)), .val (.int (Int32.ofNat ti)), .unset, .unset] []))
  have B160 : ∀ (T : State) (Lx : List Loc), Stand p l e room_1 s m #[(.int p1), (.int p2), (.int p3), (.int p4)] below meth c T Lx 1 4 → T.heap = h9 → Fr n0 Lx → ∀ ex : Int32, ex = own_ex (own_hit (3 : Int32) (Int32.ofNat fi) (Int32.ofNat ti) v3 (p4.toInt8.toInt32)) (own_hit (2 : Int32) (Int32.ofNat fi) (Int32.ofNat ti) v2 (p4.toInt8.toInt32)) (own_hit (1 : Int32) (Int32.ofNat fi) (Int32.ofNat ti) v1 (p4.toInt8.toInt32)) (own_hit (0 : Int32) (Int32.ofNat fi) (Int32.ofNat ti) v0 (p4.toInt8.toInt32)) → OwnG p.tables e below s room_1 (Q0 Z p1 p2 p3 p4 h0 n0) (T.setTop (mkF m 160 #[.val (.int p1), .val (.int p2), .val (.int p3), .val (.int p4), .val (.int (p4.toInt8.toInt32)), .val (.ref b1), .val (.int (Int32.ofNat fi)), .val (.int (Int32.ofNat ti)), .val (.int ex), .unset] [])) := by
    intro T Lx X hT NN ex hex
    show OwnG _ _ _ _ _ _ (T.setTop (mkF m 160 #[.val (.int p1), .val (.int p2), .val (.int p3), .val (.int p4), .val (.int (p4.toInt8.toInt32)), .val (.ref b1), .val (.int (Int32.ofNat fi)), .val (.int (Int32.ofNat ti)), .val (.int ex), .unset] []))
    refine OwnG.go (fun _ kz => XS.aload X.here hx rfl (hb hby at_160) rfl rfl kz) ?_
    show OwnG _ _ _ _ _ _ (T.setTop (mkF m 162 #[.val (.int p1), .val (.int p2), .val (.int p3), .val (.int p4), .val (.int (p4.toInt8.toInt32)), .val (.ref b1), .val (.int (Int32.ofNat fi)), .val (.int (Int32.ofNat ti)), .val (.int ex), .unset] [(.ref b1)]))
    refine OwnG.go (fun _ kz => XS.iload X.here hx rfl (hb hby at_162) rfl kz) ?_
    show OwnG _ _ _ _ _ _ (T.setTop (mkF m 164 #[.val (.int p1), .val (.int p2), .val (.int p3), .val (.int p4), .val (.int (p4.toInt8.toInt32)), .val (.ref b1), .val (.int (Int32.ofNat fi)), .val (.int (Int32.ofNat ti)), .val (.int ex), .unset] [(.int (Int32.ofNat fi)), (.ref b1)]))
    refine OwnG.go (fun _ kz => XS.iload X.here hx rfl (hb hby at_164) rfl kz) ?_
    show OwnG _ _ _ _ _ _ (T.setTop (mkF m 166 #[.val (.int p1), .val (.int p2), .val (.int p3), .val (.int p4), .val (.int (p4.toInt8.toInt32)), .val (.ref b1), .val (.int (Int32.ofNat fi)), .val (.int (Int32.ofNat ti)), .val (.int ex), .unset] [(.int (Int32.ofNat ti)), (.int (Int32.ofNat fi)), (.ref b1)]))
    refine OwnG.go (fun _ kz => XS.iload X.here hx rfl (hb hby at_166) rfl kz) ?_
    show OwnG _ _ _ _ _ _ (T.setTop (mkF m 168 #[.val (.int p1), .val (.int p2), .val (.int p3), .val (.int p4), .val (.int (p4.toInt8.toInt32)), .val (.ref b1), .val (.int (Int32.ofNat fi)), .val (.int (Int32.ofNat ti)), .val (.int ex), .unset] [(.int (p4.toInt8.toInt32)), (.int (Int32.ofNat ti)), (.int (Int32.ofNat fi)), (.ref b1)]))
    obtain ⟨_, _, ⟨T10, L10, k10, n10⟩, -, X10, ⟨Lc10, hQ10, l10, y10, z10⟩, st10⟩ := Jvm.LawKit.callS X hx (y := (⟨"com/example/orderwire/orderwire/Delimiters", "lastIndexOf", "([BIIB)I"⟩ : MethodName)) hown (mvT hZ (hw _ (List.mem_of_getElem? (i := 9) rfl))) (mvT hZ (hw _ (List.mem_of_getElem? (i := 10) rfl))) (mvT hZ (hw _ (List.mem_of_getElem? (i := 11) rfl))) (mvT hZ (hw _ (List.mem_of_getElem? (i := 12) rfl))) (by decide) (backOf (W := 0) (rm3 l Z a0 hw [] b1 fi ti (p4.toInt8.toInt32) k1 v0 v1 v2 v3 h9 n0 Z_9 Vf hfi hti) hZ (hw _ (List.mem_of_getElem? (i := 12) rfl)) (hw _ (List.mem_of_getElem? (i := 11) rfl)) (by decide) (by decide)) (g := (mkF m 168 #[.val (.int p1), .val (.int p2), .val (.int p3), .val (.int p4), .val (.int (p4.toInt8.toInt32)), .val (.ref b1), .val (.int (Int32.ofNat fi)), .val (.int (Int32.ofNat ti)), .val (.int ex), .unset] [(.int (p4.toInt8.toInt32)), (.int (Int32.ofNat ti)), (.int (Int32.ofNat fi)), (.ref b1)])) rfl (by rw [hml]; rfl) (argsL := [(.ref b1), (.int (Int32.ofNat fi)), (.int (Int32.ofNat ti)), (.int (p4.toInt8.toInt32))]) (rest := []) (lenOf pd_3 rfl) rfl (by show 2 * 0 + _ ≤ _; exact Nat.le_of_eq rfl) (hb hby at_168) (fun _ _ => ⟨rfl, hT, (by decide : 1 + 0 ≤ _), (by decide : 4 + 0 ≤ _)⟩)
    dsimp only [Pt.U, Pt.locs, Pt.cells, Pt.slots] at X10 l10 y10 z10 st10 hQ10
    subst l10 y10 z10
    obtain ⟨rfl, N10q, hh10⟩ := hQ10
    have N10 := Fr.app NN N10q
    refine OwnG.go (fun tz kz => st10 tz kz) ?_
    show OwnG _ _ _ _ _ _ (T10.setTop (mkF m 171 #[.val (.int p1), .val (.int p2), .val (.int p3), .val (.int p4), .val (.int (p4.toInt8.toInt32)), .val (.ref b1), .val (.int (Int32.ofNat fi)), .val (.int (Int32.ofNat ti)), .val (.int ex), .unset] [(.int (own_last (own_v v0 v1 v2 v3) fi (p4.toInt8.toInt32) ti))]))
    refine OwnG.go (fun _ kz => XS.istore X10.here hx rfl (hb hby at_171) rfl (l' := #[.val (.int p1), .val (.int p2), .val (.int p3), .val (.int p4), .val (.int (p4.toInt8.toInt32)), .val (.ref b1), .val (.int (Int32.ofNat fi)), .val (.int (Int32.ofNat ti)), .val (.int ex), .val (.int (own_last (own_v v0 v1 v2 v3) fi (p4.toInt8.toInt32) ti))]) rfl kz) ?_
    show OwnG _ _ _ _ _ _ (T10.setTop (mkF m 173 #[.val (.int p1), .val (.int p2), .val (.int p3), .val (.int p4), .val (.int (p4.toInt8.toInt32)), .val (.ref b1), .val (.int (Int32.ofNat fi)), .val (.int (Int32.ofNat ti)), .val (.int ex), .val (.int (own_last (own_v v0 v1 v2 v3) fi (p4.toInt8.toInt32) ti))] []))
    refine OwnG.go (fun _ kz => XS.iload X10.here hx rfl (hb hby at_173) rfl kz) ?_
    show OwnG _ _ _ _ _ _ (T10.setTop (mkF m 175 #[.val (.int p1), .val (.int p2), .val (.int p3), .val (.int p4), .val (.int (p4.toInt8.toInt32)), .val (.ref b1), .val (.int (Int32.ofNat fi)), .val (.int (Int32.ofNat ti)), .val (.int ex), .val (.int (own_last (own_v v0 v1 v2 v3) fi (p4.toInt8.toInt32) ti))] [(.int (own_last (own_v v0 v1 v2 v3) fi (p4.toInt8.toInt32) ti))]))
    refine OwnG.go (fun _ kz => XS.iload X10.here hx rfl (hb hby at_175) rfl kz) ?_
    show OwnG _ _ _ _ _ _ (T10.setTop (mkF m 177 #[.val (.int p1), .val (.int p2), .val (.int p3), .val (.int p4), .val (.int (p4.toInt8.toInt32)), .val (.ref b1), .val (.int (Int32.ofNat fi)), .val (.int (Int32.ofNat ti)), .val (.int ex), .val (.int (own_last (own_v v0 v1 v2 v3) fi (p4.toInt8.toInt32) ti))] [(.int ex), (.int (own_last (own_v v0 v1 v2 v3) fi (p4.toInt8.toInt32) ti))]))
    refine OwnG.go (fun _ kz => XS.icmpNo X10.here hx rfl (hb hby at_177) rfl (teq ((own_law v0 v1 v2 v3 (p4.toInt8.toInt32) fi ti hfi hti).trans hex.symm)).2 kz) ?_
    show OwnG _ _ _ _ _ _ (T10.setTop (mkF m 180 #[.val (.int p1), .val (.int p2), .val (.int p3), .val (.int p4), .val (.int (p4.toInt8.toInt32)), .val (.ref b1), .val (.int (Int32.ofNat fi)), .val (.int (Int32.ofNat ti)), .val (.int ex), .val (.int (own_last (own_v v0 v1 v2 v3) fi (p4.toInt8.toInt32) ti))] []))
    refine OwnG.go (fun _ kz => XS.iconst X10.here hx rfl (hb hby at_180) kz) ?_
    show OwnG _ _ _ _ _ _ (T10.setTop (mkF m 181 #[.val (.int p1), .val (.int p2), .val (.int p3), .val (.int p4), .val (.int (p4.toInt8.toInt32)), .val (.ref b1), .val (.int (Int32.ofNat fi)), .val (.int (Int32.ofNat ti)), .val (.int ex), .val (.int (own_last (own_v v0 v1 v2 v3) fi (p4.toInt8.toInt32) ti))] [(.int (1 : Int32))]))
    refine OwnG.go (fun _ kz => XS.goto X10.here hx rfl (pc0 := 181) (pc' := 185) rfl (hb hby at_181) (by decide) (by decide) kz) ?_
    show OwnG _ _ _ _ _ _ (T10.setTop (mkF m 185 #[.val (.int p1), .val (.int p2), .val (.int p3), .val (.int p4), .val (.int (p4.toInt8.toInt32)), .val (.ref b1), .val (.int (Int32.ofNat fi)), .val (.int (Int32.ofNat ti)), .val (.int ex), .val (.int (own_last (own_v v0 v1 v2 v3) fi (p4.toInt8.toInt32) ti))] [(.int (1 : Int32))]))
    obtain ⟨fs, hr, hrun, hended, hW, hsame⟩ := X10.leave (v := some (.int (1 : Int32))) (fun h => by rw [Bd.returns] at h; cases h)
    refine ⟨_, _, retN X10 hx (t := .boolean) Bd.returns (by simp) (hb hby at_185) hr, hrun, hended, _, _, rfl, ?_, ⟨_, rfl⟩, hW, hsame.mono (by decide) (by decide)⟩
    show (Q0 Z p1 p2 p3 p4 h0 n0) _ T10.heap _
    exact ⟨rfl, N10⟩
  refine OwnG.go (fun _ kz => XS.aload X9.here hx rfl (hb hby at_73) rfl rfl kz) ?_
  show OwnG _ _ _ _ _ _ (T9.setTop (mkF m 75 #[.val (.int p1), .val (.int p2), .val (.int p3), .val (.int p4), .val (.int (p4.toInt8.toInt32)), .val (.ref b1), .val (.int (Int32.ofNat fi)), .val (.int (Int32.ofNat ti)), .unset, .unset] [(.ref b1)]))
  refine OwnG.go (fun _ kz => XS.iconst X9.here hx rfl (hb hby at_75) kz) ?_
  show OwnG _ _ _ _ _ _ (T9.setTop (mkF m 76 #[.val (.int p1), .val (.int p2), .val (.int p3), .val (.int p4), .val (.int (p4.toInt8.toInt32)), .val (.ref b1), .val (.int (Int32.ofNat fi)), .val (.int (Int32.ofNat ti)), .unset, .unset] [(.int (3 : Int32)), (.ref b1)]))
  refine OwnG.go (fun _ kz => XS.iload X9.here hx rfl (hb hby at_76) rfl kz) ?_
  show OwnG _ _ _ _ _ _ (T9.setTop (mkF m 78 #[.val (.int p1), .val (.int p2), .val (.int p3), .val (.int p4), .val (.int (p4.toInt8.toInt32)), .val (.ref b1), .val (.int (Int32.ofNat fi)), .val (.int (Int32.ofNat ti)), .unset, .unset] [(.int (Int32.ofNat fi)), (.int (3 : Int32)), (.ref b1)]))
  refine OwnG.go (fun _ kz => XS.iload X9.here hx rfl (hb hby at_78) rfl kz) ?_
  show OwnG _ _ _ _ _ _ (T9.setTop (mkF m 80 #[.val (.int p1), .val (.int p2), .val (.int p3), .val (.int p4), .val (.int (p4.toInt8.toInt32)), .val (.ref b1), .val (.int (Int32.ofNat fi)), .val (.int (Int32.ofNat ti)), .unset, .unset] [(.int (Int32.ofNat ti)), (.int (Int32.ofNat fi)), (.int (3 : Int32)), (.ref b1)]))
  refine OwnG.go (fun _ kz => XS.iload X9.here hx rfl (hb hby at_80) rfl kz) ?_
  show OwnG _ _ _ _ _ _ (T9.setTop (mkF m 82 #[.val (.int p1), .val (.int p2), .val (.int p3), .val (.int p4), .val (.int (p4.toInt8.toInt32)), .val (.ref b1), .val (.int (Int32.ofNat fi)), .val (.int (Int32.ofNat ti)), .unset, .unset] [(.int (p4.toInt8.toInt32)), (.int (Int32.ofNat ti)), (.int (Int32.ofNat fi)), (.int (3 : Int32)), (.ref b1)]))
  obtain ⟨_, _, ⟨T11, L11, k11, n11⟩, -, X11, ⟨Lc11, hQ11, l11, y11, z11⟩, st11⟩ := Jvm.LawKit.callS X9 hx (y := (⟨"com/example/orderwire/orderwire/DelimitersLastIndexOfPinLaw", "hit", "([BIIIB)Z"⟩ : MethodName)) hown (mvT hZ (hw _ (List.mem_of_getElem? (i := 6) rfl))) (mvT hZ (hw _ (List.mem_of_getElem? (i := 7) rfl))) (mvT hZ (hw _ (List.mem_of_getElem? (i := 3) rfl))) (mvT hZ (hw _ (List.mem_of_getElem? (i := 8) rfl))) (by decide) (backOf (W := 0) (rm2 l Z a0 hw [] b1 (3 : Int32) (Int32.ofNat fi) (Int32.ofNat ti) (p4.toInt8.toInt32) k1 [.int v0, .int v1, .int v2, .int v3] v3 h9 n0 Z_9 Vf ⟨by decide, by decide⟩ rfl) hZ (hw _ (List.mem_of_getElem? (i := 8) rfl)) (hw _ (List.mem_of_getElem? (i := 3) rfl)) (by decide) (by decide)) (g := (mkF m 82 #[.val (.int p1), .val (.int p2), .val (.int p3), .val (.int p4), .val (.int (p4.toInt8.toInt32)), .val (.ref b1), .val (.int (Int32.ofNat fi)), .val (.int (Int32.ofNat ti)), .unset, .unset] [(.int (p4.toInt8.toInt32)), (.int (Int32.ofNat ti)), (.int (Int32.ofNat fi)), (.int (3 : Int32)), (.ref b1)])) rfl (by rw [hml]; rfl) (argsL := [(.ref b1), (.int (3 : Int32)), (.int (Int32.ofNat fi)), (.int (Int32.ofNat ti)), (.int (p4.toInt8.toInt32))]) (rest := []) (lenOf pd_2 rfl) rfl (by show 2 * 0 + _ ≤ _; exact Nat.le_of_eq rfl) (hb hby at_82) (fun _ _ => ⟨rfl, e9, (by decide : 1 + 0 ≤ _), (by decide : 4 + 0 ≤ _)⟩)
  dsimp only [Pt.U, Pt.locs, Pt.cells, Pt.slots] at X11 l11 y11 z11 st11 hQ11
  subst l11 y11 z11
  obtain ⟨rfl, N11q, hh11⟩ := hQ11
  have N11 := Fr.app N9 N11q
  refine OwnG.go (fun tz kz => st11 tz kz) ?_
  show OwnG _ _ _ _ _ _ (T11.setTop (mkF m 85 #[.val (.int p1), .val (.int p2), .val (.int p3), .val (.int p4), .val (.int (p4.toInt8.toInt32)), .val (.ref b1), .val (.int (Int32.ofNat fi)), .val (.int (Int32.ofNat ti)), .unset, .unset] [(.int (own_hit (3 : Int32) (Int32.ofNat fi) (Int32.ofNat ti) v3 (p4.toInt8.toInt32)))]))
  by_cases d3 : (own_hit (3 : Int32) (Int32.ofNat fi) (Int32.ofNat ti) v3 (p4.toInt8.toInt32)) = (0 : Int32)
  · have _u := ()
    refine OwnG.go (fun _ kz => XS.ifYes X11.here hx rfl (pc0 := 85) (pc' := 94) rfl (hb hby at_85) rfl ((if0 _ _).trans (teq d3).1) (by decide) (by decide) kz) ?_
    show OwnG _ _ _ _ _ _ (T11.setTop (mkF m 94 #[.val (.int p1), .val (.int p2), .val (.int p3), .val (.int p4), .val (.int (p4.toInt8.toInt32)), .val (.ref b1), .val (.int (Int32.ofNat fi)), .val (.int (Int32.ofNat ti)), .unset, .unset] []))
    refine OwnG.go (fun _ kz => XS.aload X11.here hx rfl (hb hby at_94) rfl rfl kz) ?_
    show OwnG _ _ _ _ _ _ (T11.setTop (mkF m 96 #[.val (.int p1), .val (.int p2), .val (.int p3), .val (.int p4), .val (.int (p4.toInt8.toInt32)), .val (.ref b1), .val (.int (Int32.ofNat fi)), .val (.int (Int32.ofNat ti)), .unset, .unset] [(.ref b1)]))
    refine OwnG.go (fun _ kz => XS.iconst X11.here hx rfl (hb hby at_96) kz) ?_
    show OwnG _ _ _ _ _ _ (T11.setTop (mkF m 97 #[.val (.int p1), .val (.int p2), .val (.int p3), .val (.int p4), .val (.int (p4.toInt8.toInt32)), .val (.ref b1), .val (.int (Int32.ofNat fi)), .val (.int (Int32.ofNat ti)), .unset, .unset] [(.int (2 : Int32)), (.ref b1)]))
    refine OwnG.go (fun _ kz => XS.iload X11.here hx rfl (hb hby at_97) rfl kz) ?_
    show OwnG _ _ _ _ _ _ (T11.setTop (mkF m 99 #[.val (.int p1), .val (.int p2), .val (.int p3), .val (.int p4), .val (.int (p4.toInt8.toInt32)), .val (.ref b1), .val (.int (Int32.ofNat fi)), .val (.int (Int32.ofNat ti)), .unset, .unset] [(.int (Int32.ofNat fi)), (.int (2 : Int32)), (.ref b1)]))
    refine OwnG.go (fun _ kz => XS.iload X11.here hx rfl (hb hby at_99) rfl kz) ?_
    show OwnG _ _ _ _ _ _ (T11.setTop (mkF m 101 #[.val (.int p1), .val (.int p2), .val (.int p3), .val (.int p4), .val (.int (p4.toInt8.toInt32)), .val (.ref b1), .val (.int (Int32.ofNat fi)), .val (.int (Int32.ofNat ti)), .unset, .unset] [(.int (Int32.ofNat ti)), (.int (Int32.ofNat fi)), (.int (2 : Int32)), (.ref b1)]))
    refine OwnG.go (fun _ kz => XS.iload X11.here hx rfl (hb hby at_101) rfl kz) ?_
    show OwnG _ _ _ _ _ _ (T11.setTop (mkF m 103 #[.val (.int p1), .val (.int p2), .val (.int p3), .val (.int p4), .val (.int (p4.toInt8.toInt32)), .val (.ref b1), .val (.int (Int32.ofNat fi)), .val (.int (Int32.ofNat ti)), .unset, .unset] [(.int (p4.toInt8.toInt32)), (.int (Int32.ofNat ti)), (.int (Int32.ofNat fi)), (.int (2 : Int32)), (.ref b1)]))
    obtain ⟨_, _, ⟨T12, L12, k12, n12⟩, -, X12, ⟨Lc12, hQ12, l12, y12, z12⟩, st12⟩ := Jvm.LawKit.callS X11 hx (y := (⟨"com/example/orderwire/orderwire/DelimitersLastIndexOfPinLaw", "hit", "([BIIIB)Z"⟩ : MethodName)) hown (mvT hZ (hw _ (List.mem_of_getElem? (i := 6) rfl))) (mvT hZ (hw _ (List.mem_of_getElem? (i := 7) rfl))) (mvT hZ (hw _ (List.mem_of_getElem? (i := 3) rfl))) (mvT hZ (hw _ (List.mem_of_getElem? (i := 8) rfl))) (by decide) (backOf (W := 0) (rm2 l Z a0 hw [] b1 (2 : Int32) (Int32.ofNat fi) (Int32.ofNat ti) (p4.toInt8.toInt32) k1 [.int v0, .int v1, .int v2, .int v3] v2 h9 n0 Z_9 Vf ⟨by decide, by decide⟩ rfl) hZ (hw _ (List.mem_of_getElem? (i := 8) rfl)) (hw _ (List.mem_of_getElem? (i := 3) rfl)) (by decide) (by decide)) (g := (mkF m 103 #[.val (.int p1), .val (.int p2), .val (.int p3), .val (.int p4), .val (.int (p4.toInt8.toInt32)), .val (.ref b1), .val (.int (Int32.ofNat fi)), .val (.int (Int32.ofNat ti)), .unset, .unset] [(.int (p4.toInt8.toInt32)), (.int (Int32.ofNat ti)), (.int (Int32.ofNat fi)), (.int (2 : Int32)), (.ref b1)])) rfl (by rw [hml]; rfl) (argsL := [(.ref b1), (.int (2 : Int32)), (.int (Int32.ofNat fi)), (.int (Int32.ofNat ti)), (.int (p4.toInt8.toInt32))]) (rest := []) (lenOf pd_2 rfl) rfl (by show 2 * 0 + _ ≤ _; exact Nat.le_of_eq rfl) (hb hby at_103) (fun _ _ => ⟨rfl, hh11, (by decide : 1 + 0 ≤ _), (by decide : 4 + 0 ≤ _)⟩)
    dsimp only [Pt.U, Pt.locs, Pt.cells, Pt.slots] at X12 l12 y12 z12 st12 hQ12
    subst l12 y12 z12
    obtain ⟨rfl, N12q, hh12⟩ := hQ12
    have N12 := Fr.app N11 N12q
    refine OwnG.go (fun tz kz => st12 tz kz) ?_
    show OwnG _ _ _ _ _ _ (T12.setTop (mkF m 106 #[.val (.int p1), .val (.int p2), .val (.int p3), .val (.int p4), .val (.int (p4.toInt8.toInt32)), .val (.ref b1), .val (.int (Int32.ofNat fi)), .val (.int (Int32.ofNat ti)), .unset, .unset] [(.int (own_hit (2 : Int32) (Int32.ofNat fi) (Int32.ofNat ti) v2 (p4.toInt8.toInt32)))]))
    by_cases d2 : (own_hit (2 : Int32) (Int32.ofNat fi) (Int32.ofNat ti) v2 (p4.toInt8.toInt32)) = (0 : Int32)
    · have _u := ()
      refine OwnG.go (fun _ kz => XS.ifYes X12.here hx rfl (pc0 := 106) (pc' := 115) rfl (hb hby at_106) rfl ((if0 _ _).trans (teq d2).1) (by decide) (by decide) kz) ?_
      show OwnG _ _ _ _ _ _ (T12.setTop (mkF m 115 #[.val (.int p1), .val (.int p2), .val (.int p3), .val (.int p4), .val (.int (p4.toInt8.toInt32)), .val (.ref b1), .val (.int (Int32.ofNat fi)), .val (.int (Int32.ofNat ti)), .unset, .unset] []))
      refine OwnG.go (fun _ kz => XS.aload X12.here hx rfl (hb hby at_115) rfl rfl kz) ?_
      show OwnG _ _ _ _ _ _ (T12.setTop (mkF m 117 #[.val (.int p1), .val (.int p2), .val (.int p3), .val (.int p4), .val (.int (p4.toInt8.toInt32)), .val (.ref b1), .val (.int (Int32.ofNat fi)), .val (.int (Int32.ofNat ti)), .unset, .unset] [(.ref b1)]))
      refine OwnG.go (fun _ kz => XS.iconst X12.here hx rfl (hb hby at_117) kz) ?_
      show OwnG _ _ _ _ _ _ (T12.setTop (mkF m 118 #[.val (.int p1), .val (.int p2), .val (.int p3), .val (.int p4), .val (.int (p4.toInt8.toInt32)), .val (.ref b1), .val (.int (Int32.ofNat fi)), .val (.int (Int32.ofNat ti)), .unset, .unset] [(.int (1 : Int32)), (.ref b1)]))
      refine OwnG.go (fun _ kz => XS.iload X12.here hx rfl (hb hby at_118) rfl kz) ?_
      show OwnG _ _ _ _ _ _ (T12.setTop (mkF m 120 #[.val (.int p1), .val (.int p2), .val (.int p3), .val (.int p4), .val (.int (p4.toInt8.toInt32)), .val (.ref b1), .val (.int (Int32.ofNat fi)), .val (.int (Int32.ofNat ti)), .unset, .unset] [(.int (Int32.ofNat fi)), (.int (1 : Int32)), (.ref b1)]))
      refine OwnG.go (fun _ kz => XS.iload X12.here hx rfl (hb hby at_120) rfl kz) ?_
      show OwnG _ _ _ _ _ _ (T12.setTop (mkF m 122 #[.val (.int p1), .val (.int p2), .val (.int p3), .val (.int p4), .val (.int (p4.toInt8.toInt32)), .val (.ref b1), .val (.int (Int32.ofNat fi)), .val (.int (Int32.ofNat ti)), .unset, .unset] [(.int (Int32.ofNat ti)), (.int (Int32.ofNat fi)), (.int (1 : Int32)), (.ref b1)]))
      refine OwnG.go (fun _ kz => XS.iload X12.here hx rfl (hb hby at_122) rfl kz) ?_
      show OwnG _ _ _ _ _ _ (T12.setTop (mkF m 124 #[.val (.int p1), .val (.int p2), .val (.int p3), .val (.int p4), .val (.int (p4.toInt8.toInt32)), .val (.ref b1), .val (.int (Int32.ofNat fi)), .val (.int (Int32.ofNat ti)), .unset, .unset] [(.int (p4.toInt8.toInt32)), (.int (Int32.ofNat ti)), (.int (Int32.ofNat fi)), (.int (1 : Int32)), (.ref b1)]))
      obtain ⟨_, _, ⟨T13, L13, k13, n13⟩, -, X13, ⟨Lc13, hQ13, l13, y13, z13⟩, st13⟩ := Jvm.LawKit.callS X12 hx (y := (⟨"com/example/orderwire/orderwire/DelimitersLastIndexOfPinLaw", "hit", "([BIIIB)Z"⟩ : MethodName)) hown (mvT hZ (hw _ (List.mem_of_getElem? (i := 6) rfl))) (mvT hZ (hw _ (List.mem_of_getElem? (i := 7) rfl))) (mvT hZ (hw _ (List.mem_of_getElem? (i := 3) rfl))) (mvT hZ (hw _ (List.mem_of_getElem? (i := 8) rfl))) (by decide) (backOf (W := 0) (rm2 l Z a0 hw [] b1 (1 : Int32) (Int32.ofNat fi) (Int32.ofNat ti) (p4.toInt8.toInt32) k1 [.int v0, .int v1, .int v2, .int v3] v1 h9 n0 Z_9 Vf ⟨by decide, by decide⟩ rfl) hZ (hw _ (List.mem_of_getElem? (i := 8) rfl)) (hw _ (List.mem_of_getElem? (i := 3) rfl)) (by decide) (by decide)) (g := (mkF m 124 #[.val (.int p1), .val (.int p2), .val (.int p3), .val (.int p4), .val (.int (p4.toInt8.toInt32)), .val (.ref b1), .val (.int (Int32.ofNat fi)), .val (.int (Int32.ofNat ti)), .unset, .unset] [(.int (p4.toInt8.toInt32)), (.int (Int32.ofNat ti)), (.int (Int32.ofNat fi)), (.int (1 : Int32)), (.ref b1)])) rfl (by rw [hml]; rfl) (argsL := [(.ref b1), (.int (1 : Int32)), (.int (Int32.ofNat fi)), (.int (Int32.ofNat ti)), (.int (p4.toInt8.toInt32))]) (rest := []) (lenOf pd_2 rfl) rfl (by show 2 * 0 + _ ≤ _; exact Nat.le_of_eq rfl) (hb hby at_124) (fun _ _ => ⟨rfl, hh12, (by decide : 1 + 0 ≤ _), (by decide : 4 + 0 ≤ _)⟩)
      dsimp only [Pt.U, Pt.locs, Pt.cells, Pt.slots] at X13 l13 y13 z13 st13 hQ13
      subst l13 y13 z13
      obtain ⟨rfl, N13q, hh13⟩ := hQ13
      have N13 := Fr.app N12 N13q
      refine OwnG.go (fun tz kz => st13 tz kz) ?_
      show OwnG _ _ _ _ _ _ (T13.setTop (mkF m 127 #[.val (.int p1), .val (.int p2), .val (.int p3), .val (.int p4), .val (.int (p4.toInt8.toInt32)), .val (.ref b1), .val (.int (Int32.ofNat fi)), .val (.int (Int32.ofNat ti)), .unset, .unset] [(.int (own_hit (1 : Int32) (Int32.ofNat fi) (Int32.ofNat ti) v1 (p4.toInt8.toInt32)))]))
      by_cases d1 : (own_hit (1 : Int32) (Int32.ofNat fi) (Int32.ofNat ti) v1 (p4.toInt8.toInt32)) = (0 : Int32)
      · have _u := ()
        refine OwnG.go (fun _ kz => XS.ifYes X13.here hx rfl (pc0 := 127) (pc' := 136) rfl (hb hby at_127) rfl ((if0 _ _).trans (teq d1).1) (by decide) (by decide) kz) ?_
        show OwnG _ _ _ _ _ _ (T13.setTop (mkF m 136 #[.val (.int p1), .val (.int p2), .val (.int p3), .val (.int p4), .val (.int (p4.toInt8.toInt32)), .val (.ref b1), .val (.int (Int32.ofNat fi)), .val (.int (Int32.ofNat ti)), .unset, .unset] []))
        refine OwnG.go (fun _ kz => XS.aload X13.here hx rfl (hb hby at_136) rfl rfl kz) ?_
        show OwnG _ _ _ _ _ _ (T13.setTop (mkF m 138 #[.val (.int p1), .val (.int p2), .val (.int p3), .val (.int p4), .val (.int (p4.toInt8.toInt32)), .val (.ref b1), .val (.int (Int32.ofNat fi)), .val (.int (Int32.ofNat ti)), .unset, .unset] [(.ref b1)]))
        refine OwnG.go (fun _ kz => XS.iconst X13.here hx rfl (hb hby at_138) kz) ?_
        show OwnG _ _ _ _ _ _ (T13.setTop (mkF m 139 #[.val (.int p1), .val (.int p2), .val (.int p3), .val (.int p4), .val (.int (p4.toInt8.toInt32)), .val (.ref b1), .val (.int (Int32.ofNat fi)), .val (.int (Int32.ofNat ti)), .unset, .unset] [(.int (0 : Int32)), (.ref b1)]))
        refine OwnG.go (fun _ kz => XS.iload X13.here hx rfl (hb hby at_139) rfl kz) ?_
        show OwnG _ _ _ _ _ _ (T13.setTop (mkF m 141 #[.val (.int p1), .val (.int p2), .val (.int p3), .val (.int p4), .val (.int (p4.toInt8.toInt32)), .val (.ref b1), .val (.int (Int32.ofNat fi)), .val (.int (Int32.ofNat ti)), .unset, .unset] [(.int (Int32.ofNat fi)), (.int (0 : Int32)), (.ref b1)]))
        refine OwnG.go (fun _ kz => XS.iload X13.here hx rfl (hb hby at_141) rfl kz) ?_
        show OwnG _ _ _ _ _ _ (T13.setTop (mkF m 143 #[.val (.int p1), .val (.int p2), .val (.int p3), .val (.int p4), .val (.int (p4.toInt8.toInt32)), .val (.ref b1), .val (.int (Int32.ofNat fi)), .val (.int (Int32.ofNat ti)), .unset, .unset] [(.int (Int32.ofNat ti)), (.int (Int32.ofNat fi)), (.int (0 : Int32)), (.ref b1)]))
        refine OwnG.go (fun _ kz => XS.iload X13.here hx rfl (hb hby at_143) rfl kz) ?_
        show OwnG _ _ _ _ _ _ (T13.setTop (mkF m 145 #[.val (.int p1), .val (.int p2), .val (.int p3), .val (.int p4), .val (.int (p4.toInt8.toInt32)), .val (.ref b1), .val (.int (Int32.ofNat fi)), .val (.int (Int32.ofNat ti)), .unset, .unset] [(.int (p4.toInt8.toInt32)), (.int (Int32.ofNat ti)), (.int (Int32.ofNat fi)), (.int (0 : Int32)), (.ref b1)]))
        obtain ⟨_, _, ⟨T14, L14, k14, n14⟩, -, X14, ⟨Lc14, hQ14, l14, y14, z14⟩, st14⟩ := Jvm.LawKit.callS X13 hx (y := (⟨"com/example/orderwire/orderwire/DelimitersLastIndexOfPinLaw", "hit", "([BIIIB)Z"⟩ : MethodName)) hown (mvT hZ (hw _ (List.mem_of_getElem? (i := 6) rfl))) (mvT hZ (hw _ (List.mem_of_getElem? (i := 7) rfl))) (mvT hZ (hw _ (List.mem_of_getElem? (i := 3) rfl))) (mvT hZ (hw _ (List.mem_of_getElem? (i := 8) rfl))) (by decide) (backOf (W := 0) (rm2 l Z a0 hw [] b1 (0 : Int32) (Int32.ofNat fi) (Int32.ofNat ti) (p4.toInt8.toInt32) k1 [.int v0, .int v1, .int v2, .int v3] v0 h9 n0 Z_9 Vf ⟨by decide, by decide⟩ rfl) hZ (hw _ (List.mem_of_getElem? (i := 8) rfl)) (hw _ (List.mem_of_getElem? (i := 3) rfl)) (by decide) (by decide)) (g := (mkF m 145 #[.val (.int p1), .val (.int p2), .val (.int p3), .val (.int p4), .val (.int (p4.toInt8.toInt32)), .val (.ref b1), .val (.int (Int32.ofNat fi)), .val (.int (Int32.ofNat ti)), .unset, .unset] [(.int (p4.toInt8.toInt32)), (.int (Int32.ofNat ti)), (.int (Int32.ofNat fi)), (.int (0 : Int32)), (.ref b1)])) rfl (by rw [hml]; rfl) (argsL := [(.ref b1), (.int (0 : Int32)), (.int (Int32.ofNat fi)), (.int (Int32.ofNat ti)), (.int (p4.toInt8.toInt32))]) (rest := []) (lenOf pd_2 rfl) rfl (by show 2 * 0 + _ ≤ _; exact Nat.le_of_eq rfl) (hb hby at_145) (fun _ _ => ⟨rfl, hh13, (by decide : 1 + 0 ≤ _), (by decide : 4 + 0 ≤ _)⟩)
        dsimp only [Pt.U, Pt.locs, Pt.cells, Pt.slots] at X14 l14 y14 z14 st14 hQ14
        subst l14 y14 z14
        obtain ⟨rfl, N14q, hh14⟩ := hQ14
        have N14 := Fr.app N13 N14q
        refine OwnG.go (fun tz kz => st14 tz kz) ?_
        show OwnG _ _ _ _ _ _ (T14.setTop (mkF m 148 #[.val (.int p1), .val (.int p2), .val (.int p3), .val (.int p4), .val (.int (p4.toInt8.toInt32)), .val (.ref b1), .val (.int (Int32.ofNat fi)), .val (.int (Int32.ofNat ti)), .unset, .unset] [(.int (own_hit (0 : Int32) (Int32.ofNat fi) (Int32.ofNat ti) v0 (p4.toInt8.toInt32)))]))
        by_cases d0 : (own_hit (0 : Int32) (Int32.ofNat fi) (Int32.ofNat ti) v0 (p4.toInt8.toInt32)) = (0 : Int32)
        · have _u := ()
          refine OwnG.go (fun _ kz => XS.ifYes X14.here hx rfl (pc0 := 148) (pc' := 157) rfl (hb hby at_148) rfl ((if0 _ _).trans (teq d0).1) (by decide) (by decide) kz) ?_
          show OwnG _ _ _ _ _ _ (T14.setTop (mkF m 157 #[.val (.int p1), .val (.int p2), .val (.int p3), .val (.int p4), .val (.int (p4.toInt8.toInt32)), .val (.ref b1), .val (.int (Int32.ofNat fi)), .val (.int (Int32.ofNat ti)), .unset, .unset] []))
          refine OwnG.go (fun _ kz => XS.iconst X14.here hx rfl (hb hby at_157) kz) ?_
          show OwnG _ _ _ _ _ _ (T14.setTop (mkF m 158 #[.val (.int p1), .val (.int p2), .val (.int p3), .val (.int p4), .val (.int (p4.toInt8.toInt32)), .val (.ref b1), .val (.int (Int32.ofNat fi)), .val (.int (Int32.ofNat ti)), .unset, .unset] [(.int (-1 : Int32))]))
          refine OwnG.go (fun _ kz => XS.istore X14.here hx rfl (hb hby at_158) rfl (l' := #[.val (.int p1), .val (.int p2), .val (.int p3), .val (.int p4), .val (.int (p4.toInt8.toInt32)), .val (.ref b1), .val (.int (Int32.ofNat fi)), .val (.int (Int32.ofNat ti)), .val (.int (-1 : Int32)), .unset]) rfl kz) ?_
          show OwnG _ _ _ _ _ _ (T14.setTop (mkF m 160 #[.val (.int p1), .val (.int p2), .val (.int p3), .val (.int p4), .val (.int (p4.toInt8.toInt32)), .val (.ref b1), .val (.int (Int32.ofNat fi)), .val (.int (Int32.ofNat ti)), .val (.int (-1 : Int32)), .unset] []))
          exact B160 _ _ X14 hh14 N14 _ (by simp [own_ex, d3, d2, d1, d0])
        · have _u := ()
          refine OwnG.go (fun _ kz => XS.ifNo X14.here hx rfl (hb hby at_148) rfl ((if0 _ _).trans (feq d0).1) kz) ?_
          show OwnG _ _ _ _ _ _ (T14.setTop (mkF m 151 #[.val (.int p1), .val (.int p2), .val (.int p3), .val (.int p4), .val (.int (p4.toInt8.toInt32)), .val (.ref b1), .val (.int (Int32.ofNat fi)), .val (.int (Int32.ofNat ti)), .unset, .unset] []))
          refine OwnG.go (fun _ kz => XS.iconst X14.here hx rfl (hb hby at_151) kz) ?_
          show OwnG _ _ _ _ _ _ (T14.setTop (mkF m 152 #[.val (.int p1), .val (.int p2), .val (.int p3), .val (.int p4), .val (.int (p4.toInt8.toInt32)), .val (.ref b1), .val (.int (Int32.ofNat fi)), .val (.int (Int32.ofNat ti)), .unset, .unset] [(.int (0 : Int32))]))
          refine OwnG.go (fun _ kz => XS.istore X14.here hx rfl (hb hby at_152) rfl (l' := #[.val (.int p1), .val (.int p2), .val (.int p3), .val (.int p4), .val (.int (p4.toInt8.toInt32)), .val (.ref b1), .val (.int (Int32.ofNat fi)), .val (.int (Int32.ofNat ti)), .val (.int (0 : Int32)), .unset]) rfl kz) ?_
          show OwnG _ _ _ _ _ _ (T14.setTop (mkF m 154 #[.val (.int p1), .val (.int p2), .val (.int p3), .val (.int p4), .val (.int (p4.toInt8.toInt32)), .val (.ref b1), .val (.int (Int32.ofNat fi)), .val (.int (Int32.ofNat ti)), .val (.int (0 : Int32)), .unset] []))
          refine OwnG.go (fun _ kz => XS.goto X14.here hx rfl (pc0 := 154) (pc' := 160) rfl (hb hby at_154) (by decide) (by decide) kz) ?_
          show OwnG _ _ _ _ _ _ (T14.setTop (mkF m 160 #[.val (.int p1), .val (.int p2), .val (.int p3), .val (.int p4), .val (.int (p4.toInt8.toInt32)), .val (.ref b1), .val (.int (Int32.ofNat fi)), .val (.int (Int32.ofNat ti)), .val (.int (0 : Int32)), .unset] []))
          exact B160 _ _ X14 hh14 N14 _ (by simp [own_ex, d3, d2, d1, d0])
      · have _u := ()
        refine OwnG.go (fun _ kz => XS.ifNo X13.here hx rfl (hb hby at_127) rfl ((if0 _ _).trans (feq d1).1) kz) ?_
        show OwnG _ _ _ _ _ _ (T13.setTop (mkF m 130 #[.val (.int p1), .val (.int p2), .val (.int p3), .val (.int p4), .val (.int (p4.toInt8.toInt32)), .val (.ref b1), .val (.int (Int32.ofNat fi)), .val (.int (Int32.ofNat ti)), .unset, .unset] []))
        refine OwnG.go (fun _ kz => XS.iconst X13.here hx rfl (hb hby at_130) kz) ?_
        show OwnG _ _ _ _ _ _ (T13.setTop (mkF m 131 #[.val (.int p1), .val (.int p2), .val (.int p3), .val (.int p4), .val (.int (p4.toInt8.toInt32)), .val (.ref b1), .val (.int (Int32.ofNat fi)), .val (.int (Int32.ofNat ti)), .unset, .unset] [(.int (1 : Int32))]))
        refine OwnG.go (fun _ kz => XS.istore X13.here hx rfl (hb hby at_131) rfl (l' := #[.val (.int p1), .val (.int p2), .val (.int p3), .val (.int p4), .val (.int (p4.toInt8.toInt32)), .val (.ref b1), .val (.int (Int32.ofNat fi)), .val (.int (Int32.ofNat ti)), .val (.int (1 : Int32)), .unset]) rfl kz) ?_
        show OwnG _ _ _ _ _ _ (T13.setTop (mkF m 133 #[.val (.int p1), .val (.int p2), .val (.int p3), .val (.int p4), .val (.int (p4.toInt8.toInt32)), .val (.ref b1), .val (.int (Int32.ofNat fi)), .val (.int (Int32.ofNat ti)), .val (.int (1 : Int32)), .unset] []))
        refine OwnG.go (fun _ kz => XS.goto X13.here hx rfl (pc0 := 133) (pc' := 160) rfl (hb hby at_133) (by decide) (by decide) kz) ?_
        show OwnG _ _ _ _ _ _ (T13.setTop (mkF m 160 #[.val (.int p1), .val (.int p2), .val (.int p3), .val (.int p4), .val (.int (p4.toInt8.toInt32)), .val (.ref b1), .val (.int (Int32.ofNat fi)), .val (.int (Int32.ofNat ti)), .val (.int (1 : Int32)), .unset] []))
        exact B160 _ _ X13 hh13 N13 _ (by simp [own_ex, d3, d2, d1])
    · have _u := ()
      refine OwnG.go (fun _ kz => XS.ifNo X12.here hx rfl (hb hby at_106) rfl ((if0 _ _).trans (feq d2).1) kz) ?_
      show OwnG _ _ _ _ _ _ (T12.setTop (mkF m 109 #[.val (.int p1), .val (.int p2), .val (.int p3), .val (.int p4), .val (.int (p4.toInt8.toInt32)), .val (.ref b1), .val (.int (Int32.ofNat fi)), .val (.int (Int32.ofNat ti)), .unset, .unset] []))
      refine OwnG.go (fun _ kz => XS.iconst X12.here hx rfl (hb hby at_109) kz) ?_
      show OwnG _ _ _ _ _ _ (T12.setTop (mkF m 110 #[.val (.int p1), .val (.int p2), .val (.int p3), .val (.int p4), .val (.int (p4.toInt8.toInt32)), .val (.ref b1), .val (.int (Int32.ofNat fi)), .val (.int (Int32.ofNat ti)), .unset, .unset] [(.int (2 : Int32))]))
      refine OwnG.go (fun _ kz => XS.istore X12.here hx rfl (hb hby at_110) rfl (l' := #[.val (.int p1), .val (.int p2), .val (.int p3), .val (.int p4), .val (.int (p4.toInt8.toInt32)), .val (.ref b1), .val (.int (Int32.ofNat fi)), .val (.int (Int32.ofNat ti)), .val (.int (2 : Int32)), .unset]) rfl kz) ?_
      show OwnG _ _ _ _ _ _ (T12.setTop (mkF m 112 #[.val (.int p1), .val (.int p2), .val (.int p3), .val (.int p4), .val (.int (p4.toInt8.toInt32)), .val (.ref b1), .val (.int (Int32.ofNat fi)), .val (.int (Int32.ofNat ti)), .val (.int (2 : Int32)), .unset] []))
      refine OwnG.go (fun _ kz => XS.goto X12.here hx rfl (pc0 := 112) (pc' := 160) rfl (hb hby at_112) (by decide) (by decide) kz) ?_
      show OwnG _ _ _ _ _ _ (T12.setTop (mkF m 160 #[.val (.int p1), .val (.int p2), .val (.int p3), .val (.int p4), .val (.int (p4.toInt8.toInt32)), .val (.ref b1), .val (.int (Int32.ofNat fi)), .val (.int (Int32.ofNat ti)), .val (.int (2 : Int32)), .unset] []))
      exact B160 _ _ X12 hh12 N12 _ (by simp [own_ex, d3, d2])
  · have _u := ()
    refine OwnG.go (fun _ kz => XS.ifNo X11.here hx rfl (hb hby at_85) rfl ((if0 _ _).trans (feq d3).1) kz) ?_
    show OwnG _ _ _ _ _ _ (T11.setTop (mkF m 88 #[.val (.int p1), .val (.int p2), .val (.int p3), .val (.int p4), .val (.int (p4.toInt8.toInt32)), .val (.ref b1), .val (.int (Int32.ofNat fi)), .val (.int (Int32.ofNat ti)), .unset, .unset] []))
    refine OwnG.go (fun _ kz => XS.iconst X11.here hx rfl (hb hby at_88) kz) ?_
    show OwnG _ _ _ _ _ _ (T11.setTop (mkF m 89 #[.val (.int p1), .val (.int p2), .val (.int p3), .val (.int p4), .val (.int (p4.toInt8.toInt32)), .val (.ref b1), .val (.int (Int32.ofNat fi)), .val (.int (Int32.ofNat ti)), .unset, .unset] [(.int (3 : Int32))]))
    refine OwnG.go (fun _ kz => XS.istore X11.here hx rfl (hb hby at_89) rfl (l' := #[.val (.int p1), .val (.int p2), .val (.int p3), .val (.int p4), .val (.int (p4.toInt8.toInt32)), .val (.ref b1), .val (.int (Int32.ofNat fi)), .val (.int (Int32.ofNat ti)), .val (.int (3 : Int32)), .unset]) rfl kz) ?_
    show OwnG _ _ _ _ _ _ (T11.setTop (mkF m 91 #[.val (.int p1), .val (.int p2), .val (.int p3), .val (.int p4), .val (.int (p4.toInt8.toInt32)), .val (.ref b1), .val (.int (Int32.ofNat fi)), .val (.int (Int32.ofNat ti)), .val (.int (3 : Int32)), .unset] []))
    refine OwnG.go (fun _ kz => XS.goto X11.here hx rfl (pc0 := 91) (pc' := 160) rfl (hb hby at_91) (by decide) (by decide) kz) ?_
    show OwnG _ _ _ _ _ _ (T11.setTop (mkF m 160 #[.val (.int p1), .val (.int p2), .val (.int p3), .val (.int p4), .val (.int (p4.toInt8.toInt32)), .val (.ref b1), .val (.int (Int32.ofNat fi)), .val (.int (Int32.ofNat ti)), .val (.int (3 : Int32)), .unset] []))
    exact B160 _ _ X11 hh11 N11 _ (by simp [own_ex, d3])
set_option maxRecDepth 65536 in
set_option maxHeartbeats 40000000 in
theorem comes_1 {Post : Tables → Env → Array Value → State → Outcome → State → Prop} (hpost : ∀ tb e args s v u, (limb_1_1.after args s (.returned v) u = true ∧ limb_1_2.after args s (.returned v) u = true ∧ True) → FrameEnd s (.returned v) u (Jvm.fieldLocs frame_1_writes args s ++ Jvm.arrayLocs frame_1_arrays args s ++ Jvm.staticLocs frame_1_statics s) 16 128 → Post tb e args s (.returned v) u) :
    ArmFor flags0 classFile x code maxLocals ret World_1 tables_1 room_1 Calls_1 rest_1 Pre_1 Post := by
  intro l hfl _ _ p e ha hc hk s m args below hf hA hF happ hP
  obtain ⟨hcalls, hrest, hpre⟩ := hP
  obtain ⟨-, -, -, hnamed, -, -, -, hat⟩ := (Spec.applies_iff hf).mp happ
  obtain ⟨hg, hn⟩ := and_e (Cond.before_iff.mp (show (Jvm.Cond.and given_1 narrow_1).before args s = true from hpre))
  obtain ⟨g0, gr0⟩ := and_e hg
  obtain ⟨ga0, gr1⟩ := and_e gr0
  obtain ⟨ga1, gr2⟩ := and_e gr1
  obtain ⟨ga2, gr3⟩ := and_e gr2
  obtain ⟨w0, w1, w2, w3, rfl⟩ : ∃ w0 w1 w2 w3 : Value, args = #[w0, w1, w2, w3] := by
    have hs : args.size = 4 := by simpa [Cond.value, given_1] using g0
    obtain ⟨L⟩ := args
    match L, hs with
    | [w0, w1, w2, w3], _ => exact ⟨w0, w1, w2, w3, rfl⟩
  have hw := fun d (hd : d ∈ tables_1) => atoms_spec (ws := Jvm.Cond.code x code maxLocals ret :: tables_1) hat d (List.mem_cons_of_mem _ hd)
  obtain ⟨i0, ei0⟩ := is_v ga0
  obtain rfl : w0 = (.int i0) := Option.some.inj ei0
  obtain ⟨i1, ei1⟩ := is_v ga1
  obtain rfl : w1 = (.int i1) := Option.some.inj ei1
  obtain ⟨i2, ei2⟩ := is_v ga2
  obtain rfl : w2 = (.int i2) := Option.some.inj ei2
  obtain ⟨i3, ei3⟩ := is_v gr3
  obtain rfl : w3 = (.int i3) := Option.some.inj ei3
  obtain ⟨n, o, h1, h2, h3, _, L, rfl, ⟨rfl, N⟩, hq⟩ := rm0 l s _ hw tables_1 i0 i1 i2 i3 s.heap s.heap.size (Nat.le_refl _) p e ha hc hk s m _ below hf ((Spec.applies_iff_loose hf).mp happ).1 ⟨rfl, State.Warmed39.refl s, rfl⟩ trivial
  refine ⟨n, _, h1, h2, h3, hpost _ _ _ _ _ _ ⟨Cond.after_iff.mpr rfl, Cond.after_iff.mpr (eq_i res_at (Term.int_eval (1)) rfl), trivial⟩ ⟨hq.1, hq.2.1, (hq.2.2.sift fun y hy => Or.inr (N y hy)).mono (by decide) (by decide)⟩⟩
theorem main_1_1 : Claimed_1_1 := comes_1 fun _ _ _ _ _ _ h hF => ⟨h.1, hF⟩
theorem main_1_2 : Claimed_1_2 := comes_1 fun _ _ _ _ _ _ h hF => ⟨h.2.1, hF⟩
end Jvm.Pilot.@@N@@
namespace Jvm.Pilot.@@N@@
open Jvm Jvm.ClassFile Sem Op Lib Jvm.Free Jvm.Stand Jvm.Pilot.@@N@@.Jvm.D
/-! MADE BY PROGRAM (witnessworld.py) out of the Statement's table words and the real class files: 10 classes; the members and pool entries that the words name. The judged class is class 1, her method 3. -/
namespace start1
open Jvm.ClassFile
def u (s : String) : CpInfo := .utf8 (stringToUtf16 s)
/-- a pool by its gaps: so many unusable entries, then the entry; so many at the end -/
def gap : Nat → List CpInfo → List CpInfo
  | 0, r => r
  | n + 1, r => .unusable :: gap n r
def poolList (es : List (Nat × CpInfo)) (last : Nat) : List CpInfo := es.foldr (fun e r => gap e.1 (e.2 :: r)) (gap last [])
def pool (es : List (Nat × CpInfo)) (last : Nat) : Array CpInfo := ⟨poolList es last⟩
def fileOf (pool : Array CpInfo) (this : Nat) (attrs : Array Attribute := #[]) (ms : Array MethodInfo := #[]) (fl : Nat := 33) (sup : Nat := 0) (ifs : Array Nat := #[]) (fds : Array FieldInfo := #[]) : ClassFile where
  minorVersion := 0
  majorVersion := 65
  constantPool := pool
  accessFlags := fl
  thisClass := this
  superClass := sup
  interfaces := ifs
  fields := fds
  methods := ms
  attributes := attrs
def plain (name : String) (sup : Option ClassId) : Class where
  name := name
  kind := .ordinary
  loader := none
  accessFlags := 33
  super := sup
  interfaces := #[]
  cf := none
  fields := #[]
  methods := #[]
  instanceTypes := #[]
  staticTypes := #[]
  resolved := #[]
  callSites := []
  init := .initialized
  statics := none
  mirror := none

def pool0 : Array CpInfo := pool [(5, u "<init>"), (0, u "()V"), (1, .class_ 10), (1, u "java/lang/Object")] 113

def k0m0 : Method := { name := "<init>", desc := "()V", sig := { parameters := [], returnType := none }, accessFlags := 1, code := none }
/-- java/lang/Object -/
def k0 : Class := { plain "java/lang/Object" none with
  accessFlags := 33
  interfaces := #[]
  cf := some (fileOf pool0 8 #[] #[{ accessFlags := 1, nameIndex := 5, descriptorIndex := 6, attributes := #[] }] 33 0 #[] #[])
  fields := #[]
  methods := #[k0m0]
  instanceTypes := #[]
  staticTypes := #[]
  resolved := Array.replicate 124 none
  statics := none }

def pool1 : Array CpInfo := pool [(2, .class_ 4), (1, u "java/lang/Object"), (0, u "<init>"), (0, u "()V"), (0, .methodref 8 9), (0, .class_ 10), (0, .nameAndType 11 12), (0, u "com/example/orderwire/orderwire/DelimitersLastIndexOfPinLaw"), (0, u "pick"), (0, u "(IIIB)B"), (0, .integer 2147483647), (0, .methodref 8 15), (0, .nameAndType 16 17), (0, u "hit"), (0, u "([BIIIB)Z"), (0, .methodref 19 20), (0, .class_ 21), (0, .nameAndType 22 23), (0, u "com/example/orderwire/orderwire/Delimiters"), (0, u "lastIndexOf"), (0, u "([BIIB)I"), (3, u "law"), (0, u "(IIII)Z")] 4

def k1m0 : Method := { name := "<init>", desc := "()V", sig := { parameters := [], returnType := none }, accessFlags := 2, code := none }
def k1c1 : Code := { maxStack := 3, maxLocals := 4, code := method_2_code, exceptionTable := #[], attributes := #[] }
def k1m1 : Method := { name := "pick", desc := "(IIIB)B", sig := { parameters := [.int, .int, .int, .byte], returnType := some .byte }, accessFlags := 10, code := some k1c1 }
def k1c2 : Code := { maxStack := 2, maxLocals := 5, code := method_3_code, exceptionTable := #[], attributes := #[] }
def k1m2 : Method := { name := "hit", desc := "([BIIIB)Z", sig := { parameters := [(.array .byte), .int, .int, .int, .byte], returnType := some .boolean }, accessFlags := 10, code := some k1c2 }
def k1c3 : Code := { maxStack := 6, maxLocals := 10, code := code, exceptionTable := #[], attributes := #[] }
def k1m3 : Method := { name := "law", desc := "(IIII)Z", sig := { parameters := [.int, .int, .int, .int], returnType := some .boolean }, accessFlags := 9, code := some k1c3 }
/-- com/example/orderwire/orderwire/DelimitersLastIndexOfPinLaw -/
def k1 : Class := { plain "com/example/orderwire/orderwire/DelimitersLastIndexOfPinLaw" (some 0) with
  accessFlags := 49
  interfaces := #[]
  cf := some (fileOf pool1 8 #[] #[{ accessFlags := 2, nameIndex := 5, descriptorIndex := 6, attributes := #[] }, { accessFlags := 10, nameIndex := 11, descriptorIndex := 12, attributes := #[] }, { accessFlags := 10, nameIndex := 16, descriptorIndex := 17, attributes := #[] }, { accessFlags := 9, nameIndex := 27, descriptorIndex := 28, attributes := #[] }] 49 2 #[] #[])
  fields := #[]
  methods := #[k1m0, k1m1, k1m2, k1m3]
  instanceTypes := #[]
  staticTypes := #[]
  resolved := Array.replicate 33 none
  statics := none }

def pool2 : Array CpInfo := pool [(2, .class_ 4), (1, u "java/lang/Object"), (0, u "<init>"), (0, u "()V"), (0, .class_ 8), (0, u "java/lang/Record")] 13

def k2m0 : Method := { name := "<init>", desc := "()V", sig := { parameters := [], returnType := none }, accessFlags := 4, code := none }
/-- java/lang/Record -/
def k2 : Class := { plain "java/lang/Record" (some 0) with
  accessFlags := 1057
  interfaces := #[]
  cf := some (fileOf pool2 7 #[] #[{ accessFlags := 4, nameIndex := 5, descriptorIndex := 6, attributes := #[] }] 1057 2 #[] #[])
  fields := #[]
  methods := #[k2m0]
  instanceTypes := #[]
  staticTypes := #[]
  resolved := Array.replicate 22 none
  statics := none }

def pool3 : Array CpInfo := pool [(2, .class_ 4), (1, u "java/lang/Record"), (3, .class_ 10), (1, u "com/example/orderwire/orderwire/Delimiters"), (0, u "field"), (0, u "B"), (2, u "component"), (2, u "repetition"), (2, u "escape"), (2, u "subcomponent"), (35, u "([BIIB)I"), (16, .class_ 78), (0, u "com/example/orderwire/orderwire/Delimiters$Unescaped"), (16, .class_ 97), (1, u "com/example/orderwire/orderwire/Delimiters$Listener"), (18, u "HEXADECIMAL_DIGITS"), (0, u "[B"), (12, .class_ 131), (0, u "com/example/orderwire/orderwire/Delimiters$Translated"), (35, u "STANDARD"), (0, u "Lcom/example/orderwire/orderwire/Delimiters;"), (8, u "DELIMITER_LETTERS"), (0, u "Ljava/lang/String;"), (1, u "ESCAPED_BYTES"), (0, u "I"), (1, u "ENCODING_CHARACTERS"), (1, u "WITH_TRUNCATION_CHARACTER"), (1, u "MSH_2"), (19, u "lastIndexOf")] 31

def k3c0 : Code := { maxStack := 2, maxLocals := 5, code := prog_16_method_17_code, exceptionTable := #[], attributes := #[] }
def k3m0 : Method := { name := "lastIndexOf", desc := "([BIIB)I", sig := { parameters := [(.array .byte), .int, .int, .byte], returnType := some .int }, accessFlags := 8, code := some k3c0 }
/-- com/example/orderwire/orderwire/Delimiters -/
def k3 : Class := { plain "com/example/orderwire/orderwire/Delimiters" (some 2) with
  accessFlags := 48
  interfaces := #[]
  cf := some (fileOf pool3 8 #[.nestMembers #[130, 77, 95]] #[{ accessFlags := 8, nameIndex := 207, descriptorIndex := 60, attributes := #[] }] 48 2 #[] #[{ accessFlags := 18, nameIndex := 11, descriptorIndex := 12, attributes := #[] }, { accessFlags := 18, nameIndex := 15, descriptorIndex := 12, attributes := #[] }, { accessFlags := 18, nameIndex := 18, descriptorIndex := 12, attributes := #[] }, { accessFlags := 18, nameIndex := 21, descriptorIndex := 12, attributes := #[] }, { accessFlags := 18, nameIndex := 24, descriptorIndex := 12, attributes := #[] }, { accessFlags := 24, nameIndex := 167, descriptorIndex := 168, attributes := #[] }, { accessFlags := 26, nameIndex := 177, descriptorIndex := 178, attributes := #[] }, { accessFlags := 26, nameIndex := 116, descriptorIndex := 117, attributes := #[] }, { accessFlags := 24, nameIndex := 180, descriptorIndex := 181, attributes := #[] }, { accessFlags := 26, nameIndex := 183, descriptorIndex := 181, attributes := #[] }, { accessFlags := 26, nameIndex := 185, descriptorIndex := 181, attributes := #[] }, { accessFlags := 26, nameIndex := 187, descriptorIndex := 181, attributes := #[] }])
  fields := #[{ name := "field", type := .byte, accessFlags := 18, slot := 0, constantValue := 0 }, { name := "component", type := .byte, accessFlags := 18, slot := 1, constantValue := 0 }, { name := "repetition", type := .byte, accessFlags := 18, slot := 2, constantValue := 0 }, { name := "escape", type := .byte, accessFlags := 18, slot := 3, constantValue := 0 }, { name := "subcomponent", type := .byte, accessFlags := 18, slot := 4, constantValue := 0 }, { name := "STANDARD", type := (.object "com/example/orderwire/orderwire/Delimiters"), accessFlags := 24, slot := 0, constantValue := 0 }, { name := "DELIMITER_LETTERS", type := (.object "java/lang/String"), accessFlags := 26, slot := 1, constantValue := 0 }, { name := "HEXADECIMAL_DIGITS", type := (.array .byte), accessFlags := 26, slot := 2, constantValue := 0 }, { name := "ESCAPED_BYTES", type := .int, accessFlags := 24, slot := 3, constantValue := 0 }, { name := "ENCODING_CHARACTERS", type := .int, accessFlags := 26, slot := 4, constantValue := 0 }, { name := "WITH_TRUNCATION_CHARACTER", type := .int, accessFlags := 26, slot := 5, constantValue := 0 }, { name := "MSH_2", type := .int, accessFlags := 26, slot := 6, constantValue := 0 }]
  methods := #[k3m0]
  instanceTypes := #[.byte, .byte, .byte, .byte, .byte]
  staticTypes := #[(.object "com/example/orderwire/orderwire/Delimiters"), (.object "java/lang/String"), (.array .byte), .int, .int, .int, .int]
  resolved := Array.replicate 239 none
  statics := none }

def pool4 : Array CpInfo := pool [(1, u "java/lang/Cloneable"), (0, .class_ 1), (0, u "java/lang/Object"), (0, .class_ 3)] 3

/-- java/lang/Cloneable -/
def k4 : Class := { plain "java/lang/Cloneable" (some 0) with
  accessFlags := 1537
  interfaces := #[]
  cf := some (fileOf pool4 2 #[] #[] 1537 4 #[] #[])
  fields := #[]
  methods := #[]
  instanceTypes := #[]
  staticTypes := #[]
  resolved := Array.replicate 8 none
  statics := none }

def pool5 : Array CpInfo := pool [(1, u "java/io/Serializable"), (0, .class_ 1), (0, u "java/lang/Object"), (0, .class_ 3)] 3

/-- java/io/Serializable -/
def k5 : Class := { plain "java/io/Serializable" (some 0) with
  accessFlags := 1537
  interfaces := #[]
  cf := some (fileOf pool5 2 #[] #[] 1537 4 #[] #[])
  fields := #[]
  methods := #[]
  instanceTypes := #[]
  staticTypes := #[]
  resolved := Array.replicate 8 none
  statics := none }

/-- the primitive byte -/
def k6 : Class := { plain "byte" none with kind := .primitive 'B', accessFlags := 0x411 }
/-- [B -/
def k7 : Class := { plain "[B" (some 0) with kind := .array 6 .byte, interfaces := #[4, 5], accessFlags := 1041 }

/-- the primitive int -/
def k8 : Class := { plain "int" none with kind := .primitive 'I', accessFlags := 0x411 }
/-- [I -/
def k9 : Class := { plain "[I" (some 0) with kind := .array 8 .int, interfaces := #[4, 5], accessFlags := 1041 }

def heap : Heap := #[]
def classes : Array Class := #[k0, k1, k2, k3, k4, k5, k6, k7, k8, k9]
def interned : List (Array UInt16 × Addr) := []
def slotsUsed : Nat := 0
def theMethod : MethodId := ⟨1, 3⟩
def args0 : Array Value := #[.int 5, .int 7, .int 1030, .int 5]
def aboutOver (below : List Frame) : State where
  vm := { classes := classes, interned := interned.toArray }
  heap := heap
  slotsUsed := slotsUsed
  threads := #[{ frames := .invoking theMethod args0 :: below }]
def below0 : List Frame := [.native { method := ⟨0, 0⟩, args := #[] }]
def about1 : State := aboutOver below0
def p0 : Program := .bare "" "" ""
def e0 : Env := launch0.env 0 0 0
theorem w_frames : about1.frames = Frame.invoking theMethod args0 :: below0 := rfl
set_option maxRecDepth 65536 in
theorem w_args : argsFit about1.vm theMethod args0 = true := by decide +kernel
set_option maxRecDepth 65536 in
theorem w_heap : heapFits about1 = true := by decide +kernel
set_option maxRecDepth 65536 in
theorem w_runnable : about1.curStatus? = some .runnable := by decide +kernel
set_option maxRecDepth 65536 in
theorem w_alone : about1.alone = true := by decide +kernel
set_option maxRecDepth 65536 in
theorem w_named : about1.methodNamed? x = some theMethod := by decide +kernel
set_option maxRecDepth 65536 in
theorem w_hears : about1.hears theMethod below0 = true := by decide +kernel
set_option maxRecDepth 65536 in
theorem w_ripe : about1.ripe theMethod args0 below0 = true := by decide +kernel
theorem w_running : about1.status = .running := rfl
set_option maxRecDepth 65536 in
theorem w_room : about1.hasRoom e0.platform room_1 = true :=
  launch0.hasRoom_least _ room_1 (by decide +kernel) (by decide +kernel) (by decide +kernel) (by decide +kernel) (by decide +kernel) (by decide +kernel)
theorem allAtoms_all (ts : List Jvm.Cond) (a : Array Jvm.Value) (st : Jvm.State) : (allAtoms ts).before a st = ts.all (fun c => c.before a st) := by
  induction ts with
  | nil => rfl
  | cons c t ih =>
    show (Jvm.Cond.and c (allAtoms t)).before a st = _
    rw [Jvm.Cond.before_and, ih, List.all_cons]
def words1 : List Jvm.Cond := Jvm.Cond.code x code maxLocals ret :: tables_1
/-- a 'code' word, met by the world's own term for the bytes: nothing is compared byte by byte -/
theorem code_word {y : MethodName} {bytes : ByteArray} {mx : Nat} {rt : Option FieldType} {a : Array Value} {s : State} {m : MethodId} {meth : Method} {c : Code} (h1 : s.methodNamed? y = some m) (h2 : s.vm.method? m = some meth) (h3 : meth.code = some c) (h4 : c.code = bytes)
    (h5 : (c.maxLocals == mx && c.exceptionTable.isEmpty && decide (c.maxStack ≤ mostOperands) && decide (meth.sig.returnType = rt) && !meth.locks && decide (parseMethodDescriptor y.desc = some meth.sig)) = true) : (Jvm.Cond.code y bytes mx rt).before a s = true := by
  simp only [Bool.and_eq_true, beq_iff_eq, Bool.not_eq_true', decide_eq_true_eq] at h5
  obtain ⟨⟨⟨⟨⟨g1, g2⟩, g3⟩, g4⟩, g5⟩, g6⟩ := h5
  simp [Cond.before, Cond.holds, Cond.value, h1, h2, h3, h4, g1, g2, g3, g4, g5, g6]
def isCode : Jvm.Cond → Bool
  | .code _ _ _ _ => true
  | _ => false
theorem all_split {L : List Jvm.Cond} {P : Jvm.Cond → Bool} (h1 : L.all (fun c => isCode c || P c) = true) (h2 : ∀ c ∈ L.filter isCode, P c = true) : L.all P = true := by
  refine List.all_eq_true.mpr fun c hc => ?_
  have h := List.all_eq_true.mp h1 c hc
  rcases Bool.eq_false_or_eq_true (isCode c) with hi | hi
  · exact h2 c (List.mem_filter.mpr ⟨hc, hi⟩)
  · simpa [hi] using h
set_option maxRecDepth 65536 in
theorem w_c0 : (Jvm.Cond.code x code maxLocals ret).before args0 about1 = true := code_word (m := ⟨1, 3⟩) (meth := k1m3) (c := k1c3) (by decide +kernel) rfl rfl rfl (by decide +kernel)
set_option maxRecDepth 65536 in
theorem w_c1 : (Jvm.Cond.code ({ cls := "com/example/orderwire/orderwire/DelimitersLastIndexOfPinLaw", name := "pick", desc := "(IIIB)B" } : Jvm.MethodName) method_2_code (4 : Nat) (Option.some Jvm.ClassFile.FieldType.byte)).before args0 about1 = true := code_word (m := ⟨1, 1⟩) (meth := k1m1) (c := k1c1) (by decide +kernel) rfl rfl rfl (by decide +kernel)
set_option maxRecDepth 65536 in
theorem w_c2 : (Jvm.Cond.code ({ cls := "com/example/orderwire/orderwire/DelimitersLastIndexOfPinLaw", name := "hit", desc := "([BIIIB)Z" } : Jvm.MethodName) method_3_code (5 : Nat) (Option.some Jvm.ClassFile.FieldType.boolean)).before args0 about1 = true := code_word (m := ⟨1, 2⟩) (meth := k1m2) (c := k1c2) (by decide +kernel) rfl rfl rfl (by decide +kernel)
set_option maxRecDepth 65536 in
theorem w_c3 : (Jvm.Cond.code ({ cls := "com/example/orderwire/orderwire/Delimiters", name := "lastIndexOf", desc := "([BIIB)I" } : Jvm.MethodName) prog_16_method_17_code (5 : Nat) (Option.some Jvm.ClassFile.FieldType.int)).before args0 about1 = true := code_word (m := ⟨3, 0⟩) (meth := k3m0) (c := k3c0) (by decide +kernel) rfl rfl rfl (by decide +kernel)
def codes1 : List Jvm.Cond := [Jvm.Cond.code x code maxLocals ret, Jvm.Cond.code ({ cls := "com/example/orderwire/orderwire/DelimitersLastIndexOfPinLaw", name := "pick", desc := "(IIIB)B" } : Jvm.MethodName) method_2_code (4 : Nat) (Option.some Jvm.ClassFile.FieldType.byte), Jvm.Cond.code ({ cls := "com/example/orderwire/orderwire/DelimitersLastIndexOfPinLaw", name := "hit", desc := "([BIIIB)Z" } : Jvm.MethodName) method_3_code (5 : Nat) (Option.some Jvm.ClassFile.FieldType.boolean), Jvm.Cond.code ({ cls := "com/example/orderwire/orderwire/Delimiters", name := "lastIndexOf", desc := "([BIIB)I" } : Jvm.MethodName) prog_16_method_17_code (5 : Nat) (Option.some Jvm.ClassFile.FieldType.int)]
set_option maxRecDepth 65536 in
theorem codes_eq : words1.filter isCode = codes1 := rfl
theorem w_codes : ∀ c ∈ words1.filter isCode, c.before args0 about1 = true := by
  rw [codes_eq]
  intro c hc
  simp only [codes1, List.mem_cons, List.not_mem_nil, or_false] at hc
  rcases hc with rfl | rfl | rfl | rfl
  · exact w_c0
  · exact w_c1
  · exact w_c2
  · exact w_c3
set_option maxRecDepth 65536 in
theorem w_t1 : words1.all (fun c => isCode c || c.before args0 about1) = true := by decide +kernel
theorem w_tables : (allAtoms (Jvm.Cond.code x code maxLocals ret :: tables_1)).before args0 about1 = true := by
  rw [allAtoms_all]
  show words1.all (fun c => c.before args0 about1) = true
  refine all_split ?_ w_codes
  rw [w_t1]
set_option maxRecDepth 65536 in
theorem w_case : (Jvm.Cond.and given_1 narrow_1).before args0 about1 = true := by decide +kernel
theorem w_applies : (headSpec (Jvm.Cond.code x code maxLocals ret :: tables_1) room_1).applies x e0.platform about1 = true :=
  (Spec.applies_iff w_frames).mpr ⟨w_running, w_runnable, w_alone, w_named, w_hears, w_ripe, w_room, w_tables⟩
theorem atStart : AtStart classFile x code maxLocals ret World_1 tables_1 room_1 Calls_1 rest_1 Pre_1 launch0 p0 e0 about1 theMethod args0 below0 :=
  ⟨lists_1, trivial, launch0.admits_env _ _ _, launch0.least_env, fairChoices_fair.cas, fairChoices_fair.clock, w_frames, w_args, w_heap, w_applies, trivial, trivial, w_case⟩
end start1
theorem witness_1 : WitnessClaimed_1 := ⟨start1.p0, start1.e0, start1.about1, start1.theMethod, start1.args0, start1.below0, start1.atStart⟩
end Jvm.Pilot.@@N@@
