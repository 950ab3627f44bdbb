import JvmDerived
import JvmDerived.Pilot.@@N@@Statement
import JvmDerived.Pilot.@@N@@Code
set_option linter.unusedVariables false
set_option linter.unusedSimpArgs false
namespace Jvm.RoadKit
open Sem ClassFile Op Lib Jvm.Stand Jvm.Free Jvm.LawKit
section New
variable {p : Program} {l : Launch} {e : Env} {R : Room} {s : State} {m : MethodId} {args : Array Value} {below : List Frame} {meth : Method} {c : Code} {T : State} {locs : List Loc} {cells slots : Nat}
theorem retI (X : Stand p l e R s m args below meth c T locs cells slots) (hx : p.tables.exec = Jvm.exec) {pc : Nat} {Ls : Array Slot} {z : Int32} {rest : List Value} (hret : meth.sig.returnType = some .int) (hd : decode c.code pc = .ok (.ireturn, 1)) {fs : List Frame}
    (hl : ∀ (f : JFrame) (acts : List Action), f.method = m → f.locked = none → f.entered = [] → (doReturn e (T.setTop f) acts (some (.int z))).1 = T.setFrames fs) : Steps p.tables e below (T.setTop (mkF m pc Ls (.int z :: rest))) (T.setFrames fs) := by
  have hm' : T.vm.method? m = some meth := X.method'
  have hn : narrow .int (.int z) = .int z := rfl
  show Steps p.tables e below (T.setTop { method := m, pc := pc, locals := Ls, stack := _ :: rest, locked := none }) _
  jvm_step X.here [X.here.top, hx, hd, hm', hret, hn]
  first | (intro acts; rw [hl _ acts rfl rfl rfl]) | rw [hl _ _ rfl rfl rfl]
  exact Steps.refl _
end New
end Jvm.RoadKit
namespace Jvm.Pilot.@@N@@
open Jvm Jvm.ClassFile Sem Op Lib Jvm.Free Jvm.Stand Jvm.LawKit Jvm.RoadKit Bundle Jvm.Pilot.@@N@@.Jvm.D
/-- what is left of a run from the state A: it comes to an end, returns, and leaves what Q says -/
def OwnG (tb : Tables) (e : Env) (below : List Frame) (s : State) (R : Room) (Q : Option Value → Heap → List Loc → Prop) (A : State) : Prop :=
  ∃ s₂ o, Steps tb e below A s₂ ∧ s₂.status = .running ∧ Ended s₂ below o ∧ ∃ v L, o = .returned v ∧ Q v s₂.heap L ∧ FrameEnd s o s₂ L R.cells R.slots
theorem OwnG.go {tb : Tables} {e : Env} {below : List Frame} {s : State} {R : Room} {Q : Option Value → Heap → List Loc → Prop} {A B : State} (st : ∀ t, Steps tb e below A t → Steps tb e below B t) (h : OwnG tb e below s R Q A) : OwnG tb e below s R Q B := by
  obtain ⟨s₂, o, h1, h2⟩ := h
  exact ⟨s₂, o, st _ h1, h2⟩
theorem own_stand {p : Program} {l : Launch} {e : Env} {R : Room} {s : State} {m : MethodId} {args : Array Value} {below : List Frame} {meth : Method} {c : Code} {T : State} {locs : List Loc} {k n k' n' : Nat} (X : Stand p l e R s m args below meth c T locs k n) (h1 : k ≤ k') (h2 : n ≤ n') : Stand p l e R s m args below meth c T locs k' n' :=
  { X with same := X.same.mono h1 h2 }
theorem own_nat {k : Nat} (h : k < 2 ^ 31) : (Int32.ofNat k).toNatClampNeg = k := by
  simp only [Int32.toNatClampNeg]
  rw [Int32.toInt_ofNat_of_lt h]
  omega
theorem own_nneg {k : Nat} (h : k < 2 ^ 31) : ¬ Int32.ofNat k < 0 := by
  rw [Int32.lt_iff_toInt_lt, Int32.toInt_ofNat_of_lt h]
  show ¬ (k : Int) < 0
  omega
theorem own_lt {i j : Nat} (hi : i < 2 ^ 31) (hj : j < 2 ^ 31) : Int32.ofNat i < Int32.ofNat j ↔ i < j := by
  rw [Int32.lt_iff_toInt_lt, Int32.toInt_ofNat_of_lt hi, Int32.toInt_ofNat_of_lt hj]
  omega
theorem own_eq {i j : Nat} (hi : i < 2 ^ 31) (hj : j < 2 ^ 31) : Int32.ofNat i = Int32.ofNat j ↔ i = j := by
  rw [← Int32.toInt_inj, Int32.toInt_ofNat_of_lt hi, Int32.toInt_ofNat_of_lt hj]
  omega
theorem own_one (i : Nat) : Int32.ofNat i + (1 : Int32) = Int32.ofNat (i + 1) := (Int32.ofNat_add i 1).symm
theorem own_subn {i j : Nat} (h : j ≤ i) : Int32.ofNat i - Int32.ofNat j = Int32.ofNat (i - j) := by
  have : Int32.ofNat i = Int32.ofNat (i - j) + Int32.ofNat j := by rw [← Int32.ofNat_add, Nat.sub_add_cancel h]
  rw [this, Int32.add_sub_cancel]
theorem own_sub1 {i : Nat} (h : 1 ≤ i) : Int32.ofNat i - (1 : Int32) = Int32.ofNat (i - 1) := own_subn h
theorem own_dbl (i : Nat) : Int32.ofNat i * (2 : Int32) = Int32.ofNat (2 * i) := by
  rw [Nat.mul_comm, Int32.ofNat_mul]; rfl
theorem own_dbl' (i : Nat) : (2 : Int32) * Int32.ofNat i = Int32.ofNat (2 * i) := by
  rw [Int32.ofNat_mul]; rfl
def own_min (x y : Int32) : Int32 := if y < x then y else x
theorem own_min_l {i j : Nat} (hi : i < 2 ^ 31) (hj : j < 2 ^ 31) (h : i ≤ j) : own_min (Int32.ofNat i) (Int32.ofNat j) = Int32.ofNat i := by
  rw [own_min, if_neg]
  rw [own_lt hj hi]; omega
def own_max (x y : Int32) : Int32 := if x < y then y else x
theorem own_max_n {i j : Nat} (hi : i < 2 ^ 31) (hj : j < 2 ^ 31) : own_max (Int32.ofNat i) (Int32.ofNat j) = Int32.ofNat (max i j) := by
  rw [own_max]
  by_cases h : i < j
  · rw [if_pos ((own_lt hi hj).mpr h), Nat.max_eq_right (by omega)]
  · rw [if_neg (fun q => h ((own_lt hi hj).mp q)), Nat.max_eq_left (by omega)]
theorem own_toNat (z : Int32) : z = Int32.ofNat z.toBitVec.toNat := by
  apply Int32.toBitVec_inj.mp
  show _ = BitVec.ofNat 32 _
  rw [BitVec.ofNat_toNat]; simp
theorem own_and {m : Nat} (x : Int32) (hm : m < 2 ^ 31) : ∃ n : Nat, n ≤ m ∧ (x &&& Int32.ofNat m) = Int32.ofNat n := by
  refine ⟨(x &&& Int32.ofNat m).toBitVec.toNat, ?_, own_toNat _⟩
  simp only [Int32.toBitVec_and, BitVec.toNat_and]
  refine Nat.le_trans Nat.and_le_right ?_
  show (BitVec.ofNat 32 m).toNat ≤ m
  rw [BitVec.toNat_ofNat]
  exact Nat.mod_le _ _
/-- an int[] of n places, place i holding f i -/
def OwnA (Z : State) (h : Heap) (a : Addr) (n : Nat) (f : Nat → Int32) : Prop := ∃ cl : Cell, Arr Z h a cl .int ∧ cl.slots.size = n ∧ ∀ i, i < n → cl.slots[i]? = some (.int (f i))
section OwnArr
variable {Z : State} {h h' : Heap} {a b : Addr} {n : Nat} {f : Nat → Int32} {sl : Nat} {v : Value} {ws : List Addr}
theorem OwnA.lt (F : OwnA Z h a n f) : a < h.size := by obtain ⟨c, A, -⟩ := F; exact A.lt
theorem OwnA.ext (F : OwnA Z h a n f) (E : Ext h h') : OwnA Z h' a n f := by obtain ⟨c, A, r⟩ := F; exact ⟨c, A.ext E, r⟩
theorem OwnA.other (F : OwnA Z h b n f) (W : Wr h h' a sl v) (q : b ≠ a) : OwnA Z h' b n f := by obtain ⟨c, A, r⟩ := F; exact ⟨c, A.other W q, r⟩
theorem OwnA.keep (F : OwnA Z h a n f) (K : Keep h h' ws) (q : a ∉ ws) : OwnA Z h' a n f := by obtain ⟨c, A, r⟩ := F; exact ⟨c, ⟨K.2.1 a c A.1 q, A.2⟩, r⟩
theorem own_range (n : Nat) (f : Nat → Int32) {i : Nat} (hi : i < n) : ((List.range n).map fun i => Value.int (f i)).getD i (.int (0 : Int32)) = .int (f i) := by
  simp [List.getD_eq_getElem?_getD, hi]
theorem OwnA.arv (F : OwnA Z h a n f) (hn : n < 2 ^ 31) : ∃ k, Arv Z h a k .int (Int32.ofNat n) ((List.range n).map fun i => Value.int (f i)) (.int (0 : Int32)) := by
  obtain ⟨c, A, S, H⟩ := F
  refine ⟨c.cls, c, A, rfl, by rw [S, own_nat hn], own_nneg hn, fun i hi => ?_, fun i hi => ?_⟩
  · rw [S] at hi; rw [own_range n f hi]; exact H i hi
  · rw [S] at hi; rw [own_range n f hi]; rfl
theorem OwnA.of {k : ClassId} {vs : List Value} (F : Arv Z h a k .int (Int32.ofNat n) vs (.int (0 : Int32))) (hn : n < 2 ^ 31) (hf : ∀ i, i < n → vs.getD i (.int (0 : Int32)) = .int (f i)) : OwnA Z h a n f := by
  obtain ⟨c, A, q, S, N, H, G⟩ := F
  rw [own_nat hn] at S
  exact ⟨c, A, S, fun i hi => by rw [← hf i hi]; exact H i (by rw [S]; exact hi)⟩
theorem own_inb {c : Cell} {j : Nat} (S : c.slots.size = n) (hj : j < n) (hn : n < 2 ^ 31) : ¬ (Int32.ofNat j < 0 ∨ c.slots.size ≤ (Int32.ofNat j).toNatClampNeg) := by
  rw [own_nat (by omega), S]
  rintro (q | q)
  · exact own_nneg (by omega) q
  · omega
theorem own_at {c : Cell} {j : Nat} (S : c.slots.size = n) (H : ∀ i, i < n → c.slots[i]? = some (.int (f i))) (hj : j < n) (hn : n < 2 ^ 31) : c.slots[(Int32.ofNat j).toNatClampNeg]? = some (.int (f j)) := by
  rw [own_nat (by omega)]; exact H j hj
theorem OwnA.set {c : Cell} {j : Nat} {y : Int32} (A : Arr Z h a c .int) (S : c.slots.size = n) (H : ∀ i, i < n → c.slots[i]? = some (.int (f i))) (hj : j < n) (hn : n < 2 ^ 31) (W : Wr h h' a (Int32.ofNat j).toNatClampNeg (.int y)) : OwnA Z h' a n (fun i => if i = j then y else f i) := by
  rw [own_nat (by omega)] at W
  refine ⟨_, A.same W, by rw [sz_set]; exact S, fun i hi => ?_⟩
  by_cases u : j = i
  · subst u; simp [Cell.setSlot, S, hj]
  · have := H i hi
    have u' : ¬ i = j := fun q => u q.symm
    simp only [Cell.setSlot]
    rw [Array.getElem?_setIfInBounds_ne u, this]
    simp [u']
theorem own_copy {n' : Nat} (h1 : n ≤ n') (hn : n < 2 ^ 31) : ∀ i, i < n' → ((List.replicate n' (Value.int (0 : Int32))).take (0 : Int32).toNatClampNeg ++ (List.range (Int32.ofNat n).toNatClampNeg).map (fun i => ((List.range n).map fun i => Value.int (f i)).getD ((0 : Int32).toNatClampNeg + i) (.int (0 : Int32))) ++ (List.replicate n' (Value.int (0 : Int32))).drop ((0 : Int32).toNatClampNeg + (Int32.ofNat n).toNatClampNeg)).getD i (.int (0 : Int32)) = .int (if i < n then f i else 0) := by
  intro i hi
  rw [own_nat hn, show (0 : Int32).toNatClampNeg = 0 from rfl, List.take_zero, List.nil_append, Nat.zero_add]
  simp only [List.getD_eq_getElem?_getD]
  by_cases q : i < n
  · rw [List.getElem?_append_left (by simpa using q)]
    simp [q]
  · rw [List.getElem?_append_right (by simpa using q)]
    simp [q]
    rw [List.getElem?_replicate]
    split <;> rfl
end OwnArr
/-- the list at a: its size is sz, its array has room for sz; all of it is new -/
def OwnS (Z : State) (h : Heap) (n0 : Nat) (a : Addr) (sz : Nat) : Prop := n0 ≤ h.size ∧ n0 ≤ a ∧ Exa Z h a "com/example/saturate/saturate/ints/IntList" ∧ Fld Z h a "com/example/saturate/saturate/ints/IntList" "size" "I" (.int (Int32.ofNat sz)) ∧ ∃ (t : Addr) (cap : Nat) (f : Nat → Int32), Fld Z h a "com/example/saturate/saturate/ints/IntList" "items" "[I" (.ref t) ∧ OwnA Z h t cap f ∧ n0 ≤ t ∧ a ≠ t ∧ sz ≤ cap ∧ 1 ≤ cap ∧ cap ≤ 8
def own_em (n : Nat) : Int32 := if n = 0 then 1 else 0
theorem pd_1 : parseMethodDescriptor "()V" = some ⟨[], none⟩ := by decide +kernel
theorem pd_2 : parseMethodDescriptor "()V" = some ⟨[], none⟩ := by decide +kernel
theorem pd_3 : parseMethodDescriptor "(I)V" = some ⟨[.int], none⟩ := by decide +kernel
theorem pd_4 : parseMethodDescriptor "()Z" = some ⟨[], some .boolean⟩ := by decide +kernel
theorem pd_5 : parseMethodDescriptor "([II)[I" = some ⟨[(.array .int), .int], some (.array .int)⟩ := by decide +kernel
theorem pd_6 : parseMethodDescriptor "(II)I" = some ⟨[.int, .int], some .int⟩ := by decide +kernel
theorem pd_7 : parseMethodDescriptor "()I" = some ⟨[], some .int⟩ := by decide +kernel
theorem pd_8 : parseMethodDescriptor "()V" = some ⟨[], none⟩ := by decide +kernel
theorem pf_6 : plainFor (⟨"java/lang/Math", "min", "(II)I"⟩ : MethodName) = true := by decide +kernel
theorem d6_0 : decode jdk_29_method_69_code 0 = .ok (.iload_n 0, 1) := by decide +kernel
theorem d6_1 : decode jdk_29_method_69_code 1 = .ok (.iload_n 1, 1) := by decide +kernel
theorem d6_2 : decode jdk_29_method_69_code 2 = .ok (.if_icmp .gt 7, 3) := by decide +kernel
theorem d6_5 : decode jdk_29_method_69_code 5 = .ok (.iload_n 0, 1) := by decide +kernel
theorem d6_6 : decode jdk_29_method_69_code 6 = .ok (.goto 4, 3) := by decide +kernel
theorem d6_9 : decode jdk_29_method_69_code 9 = .ok (.iload_n 1, 1) := by decide +kernel
theorem d6_10 : decode jdk_29_method_69_code 10 = .ok (.ireturn, 1) := by decide +kernel
theorem ef_6 (m : MethodId) (x0 : Int32) (x1 : Int32) : entryFrame m #[(.int x0), (.int x1)] 2 = mkF m 0 #[.val (.int x0), .val (.int x1)] [] := by first | (simp [entryFrame, mkF, argsToLocals, Value.category]; done) | rfl
def Q6 (Z : State) (p1 p2 : Int32) (h0 : Heap) (n0 : Nat) (v : Option Value) (h : Heap) (L : List Loc) : Prop := v = some (.int (own_min p1 p2)) ∧ Fr n0 L ∧ h = h0
set_option maxRecDepth 65536 in
set_option maxHeartbeats 40000000 in
theorem rm6 (l : Launch) (Z : State) (a0 : Array Value) (hw : ∀ d ∈ tables_1, d.before a0 Z = true) (ws : List Jvm.Cond) (p1 p2 : Int32) (h0 : Heap) (n0 : Nat) (Z0 : n0 ≤ h0.size)  :
    MetFree l (⟨"java/lang/Math", "min", "(II)I"⟩ : MethodName) (head1 (Jvm.Cond.code (⟨"java/lang/Math", "min", "(II)I"⟩ : MethodName) jdk_29_method_69_code 2 (some .int) :: ws) ({ frames := 0, cells := 0, slots := 0, locals := 0 } : Room)) (fun a U => a = #[(.int p1), (.int p2)] ∧ Z.Warmed39 U.vm ∧ U.heap = h0) (fun _ _ _ _ _ => True) (fun _ U o U' => ∃ v L, o = .returned v ∧ (Q6 Z p1 p2 h0 n0) v U'.heap L ∧ FrameEnd U o U' L ({ frames := 0, cells := 0, slots := 0, locals := 0 } : Room).cells ({ frames := 0, cells := 0, slots := 0, locals := 0 } : Room).slots) := by
  refine MetFree.of_bodySF pf_6 hisR ?_
  intro p e s m args below meth c s₁ Bd hml0 hP hK
  obtain ⟨rfl, hZ, hh⟩ := hP
  have hx := Bd.exec
  have hby := Bd.bytes
  have hml : c.maxLocals = 2 := hml0
  have hown : s.vm.findClass "java/lang/Math" = some m.cls := (findClass_of_methodNamed Bd.named :)
  have hnm := (name_of_methodNamed Bd.named Bd.method).1
  have X0 : Stand p l e ({ frames := 0, cells := 0, slots := 0, locals := 0 } : Room) s m #[(.int p1), (.int p2)] below meth c s₁ [] 0 0 := Stand.of_body Bd
  have e0 : s₁.heap = h0 := by rw [← hh, Bd.state]; rfl
  have N0 := Fr.nil n0
  show OwnG p.tables e below s ({ frames := 0, cells := 0, slots := 0, locals := 0 } : Room) (Q6 Z p1 p2 h0 n0) (s₁.setTop (entryFrame m #[(.int p1), (.int p2)] 2))
  refine OwnG.go (fun tz kz => castTop (ef_6 m p1 p2) kz) ?_
  show OwnG _ _ _ _ _ _ (s₁.setTop (mkF m 0 #[.val (.int p1), .val (.int p2)] []))
  refine OwnG.go (fun _ kz => XS.iloadN X0.here hx rfl (hb hby d6_0) rfl kz) ?_
  show OwnG _ _ _ _ _ _ (s₁.setTop (mkF m 1 #[.val (.int p1), .val (.int p2)] [(.int p1)]))
  refine OwnG.go (fun _ kz => XS.iloadN X0.here hx rfl (hb hby d6_1) rfl kz) ?_
  show OwnG _ _ _ _ _ _ (s₁.setTop (mkF m 2 #[.val (.int p1), .val (.int p2)] [(.int p2), (.int p1)]))
  by_cases c1 : p2 < p1
  · have _u := ()
    refine OwnG.go (fun _ kz => XS.icmpYes X0.here hx rfl (pc0 := 2) (pc' := 9) rfl (hb hby d6_2) rfl (tlt c1).2.2.1 (by decide) (by decide) kz) ?_
    show OwnG _ _ _ _ _ _ (s₁.setTop (mkF m 9 #[.val (.int p1), .val (.int p2)] []))
    refine OwnG.go (fun _ kz => XS.iloadN X0.here hx rfl (hb hby d6_9) rfl kz) ?_
    show OwnG _ _ _ _ _ _ (s₁.setTop (mkF m 10 #[.val (.int p1), .val (.int p2)] [(.int p2)]))
    obtain ⟨fs, hr, hrun, hended, hW, hsame⟩ := X0.leave (v := some (.int p2)) (fun h => by rw [Bd.returns] at h; cases h)
    refine ⟨_, _, retI X0 hx Bd.returns (hb hby d6_10) hr, hrun, hended, _, _, rfl, ?_, ⟨_, rfl⟩, hW, hsame.mono (by decide) (by decide)⟩
    show (Q6 Z p1 p2 h0 n0) _ s₁.heap _
    rw [e0]
    exact ⟨by rw [own_min, if_pos c1], N0, rfl⟩
  · have _u := ()
    refine OwnG.go (fun _ kz => XS.icmpNo X0.here hx rfl (hb hby d6_2) rfl (flt c1).2.2.1 kz) ?_
    show OwnG _ _ _ _ _ _ (s₁.setTop (mkF m 5 #[.val (.int p1), .val (.int p2)] []))
    refine OwnG.go (fun _ kz => XS.iloadN X0.here hx rfl (hb hby d6_5) rfl kz) ?_
    show OwnG _ _ _ _ _ _ (s₁.setTop (mkF m 6 #[.val (.int p1), .val (.int p2)] [(.int p1)]))
    refine OwnG.go (fun _ kz => XS.goto X0.here hx rfl (pc0 := 6) (pc' := 10) rfl (hb hby d6_6) (by decide) (by decide) kz) ?_
    show OwnG _ _ _ _ _ _ (s₁.setTop (mkF m 10 #[.val (.int p1), .val (.int p2)] [(.int p1)]))
    obtain ⟨fs, hr, hrun, hended, hW, hsame⟩ := X0.leave (v := some (.int p1)) (fun h => by rw [Bd.returns] at h; cases h)
    refine ⟨_, _, retI X0 hx Bd.returns (hb hby d6_10) hr, hrun, hended, _, _, rfl, ?_, ⟨_, rfl⟩, hW, hsame.mono (by decide) (by decide)⟩
    show (Q6 Z p1 p2 h0 n0) _ s₁.heap _
    rw [e0]
    exact ⟨by rw [own_min, if_neg c1], N0, rfl⟩
theorem d5_0 : decode jdk_65_method_123_code 0 = .ok (.iload_n 1, 1) := by decide +kernel
theorem d5_1 : decode jdk_65_method_123_code 1 = .ok (.aload_n 0, 1) := by decide +kernel
theorem d5_2 : decode jdk_65_method_123_code 2 = .ok (.arraylength, 1) := by decide +kernel
theorem d5_3 : decode jdk_65_method_123_code 3 = .ok (.if_icmp .ne 11, 3) := by decide +kernel
theorem d5_6 : decode jdk_65_method_123_code 6 = .ok (.aload_n 0, 1) := by decide +kernel
theorem d5_7 : decode jdk_65_method_123_code 7 = .ok (.invokevirtual 316, 3) := by decide +kernel
theorem d5_10 : decode jdk_65_method_123_code 10 = .ok (.checkcast 317, 3) := by decide +kernel
theorem d5_13 : decode jdk_65_method_123_code 13 = .ok (.areturn, 1) := by decide +kernel
theorem d5_14 : decode jdk_65_method_123_code 14 = .ok (.iload_n 1, 1) := by decide +kernel
theorem d5_15 : decode jdk_65_method_123_code 15 = .ok (.newarray .int, 2) := by decide +kernel
theorem d5_17 : decode jdk_65_method_123_code 17 = .ok (.astore_n 2, 1) := by decide +kernel
theorem d5_18 : decode jdk_65_method_123_code 18 = .ok (.aload_n 0, 1) := by decide +kernel
theorem d5_19 : decode jdk_65_method_123_code 19 = .ok (.iconst 0, 1) := by decide +kernel
theorem d5_20 : decode jdk_65_method_123_code 20 = .ok (.aload_n 2, 1) := by decide +kernel
theorem d5_21 : decode jdk_65_method_123_code 21 = .ok (.iconst 0, 1) := by decide +kernel
theorem d5_22 : decode jdk_65_method_123_code 22 = .ok (.aload_n 0, 1) := by decide +kernel
theorem d5_23 : decode jdk_65_method_123_code 23 = .ok (.arraylength, 1) := by decide +kernel
theorem d5_24 : decode jdk_65_method_123_code 24 = .ok (.iload_n 1, 1) := by decide +kernel
theorem d5_25 : decode jdk_65_method_123_code 25 = .ok (.invokestatic 304, 3) := by decide +kernel
theorem d5_28 : decode jdk_65_method_123_code 28 = .ok (.invokestatic 150, 3) := by decide +kernel
theorem d5_31 : decode jdk_65_method_123_code 31 = .ok (.aload_n 2, 1) := by decide +kernel
theorem d5_32 : decode jdk_65_method_123_code 32 = .ok (.areturn, 1) := by decide +kernel
theorem pn_5 : plainName "java/util/Arrays" = true := by first | (simp [plainName, overriddenIn]; done) | decide +kernel
theorem ef_5 (m : MethodId) (x0 : Addr) (x1 : Int32) : entryFrame m #[(.ref x0), (.int x1)] 3 = mkF m 0 #[.val (.ref x0), .val (.int x1), .unset] [] := by first | (simp [entryFrame, mkF, argsToLocals, Value.category]; done) | rfl
def Q5 (Z : State) (a1 : Addr) (n n' : Nat) (f : Nat → Int32) (h0 : Heap) (n0 : Nat) (v : Option Value) (h : Heap) (L : List Loc) : Prop := v = some (.ref h0.size) ∧ Fr n0 L ∧ Keep h0 h [] ∧ OwnA Z h h0.size n' (fun i => if i < n then f i else 0)
set_option maxRecDepth 65536 in
set_option maxHeartbeats 40000000 in
theorem rm5 (l : Launch) (Z : State) (a0 : Array Value) (hw : ∀ d ∈ tables_1, d.before a0 Z = true) (ws : List Jvm.Cond) (a1 : Addr) (n n' : Nat) (f : Nat → Int32) (h0 : Heap) (n0 : Nat) (Z0 : n0 ≤ h0.size) (V1 : OwnA Z h0 a1 n f) (hn : n < n') (hn' : n' ≤ 8) :
    MetFree l (⟨"java/util/Arrays", "copyOf", "([II)[I"⟩ : MethodName) (head1 (Jvm.Cond.code (⟨"java/util/Arrays", "copyOf", "([II)[I"⟩ : MethodName) jdk_65_method_123_code 3 (some (.array .int)) :: ws) ({ frames := 1, cells := 1, slots := 8, locals := 40 } : Room)) (fun a U => a = #[(.ref a1), (.int (Int32.ofNat n'))] ∧ Z.Warmed39 U.vm ∧ U.heap = h0) (fun _ _ _ _ _ => True) (fun _ U o U' => ∃ v L, o = .returned v ∧ (Q5 Z a1 n n' f h0 n0) v U'.heap L ∧ FrameEnd U o U' L ({ frames := 1, cells := 1, slots := 8, locals := 40 } : Room).cells ({ frames := 1, cells := 1, slots := 8, locals := 40 } : Room).slots) := by
  refine MetFree.of_bodySF (plainFor_of_name pn_5) hisR ?_
  intro p e s m args below meth c s₁ Bd hml0 hP hK
  obtain ⟨rfl, hZ, hh⟩ := hP
  have hx := Bd.exec
  have hby := Bd.bytes
  have hml : c.maxLocals = 3 := hml0
  have hown : s.vm.findClass "java/util/Arrays" = some m.cls := (findClass_of_methodNamed Bd.named :)
  have hnm := (name_of_methodNamed Bd.named Bd.method).1
  have X0 : Stand p l e ({ frames := 1, cells := 1, slots := 8, locals := 40 } : Room) s m #[(.ref a1), (.int (Int32.ofNat n'))] below meth c s₁ [] 0 0 := Stand.of_body Bd
  have e0 : s₁.heap = h0 := by rw [← hh, Bd.state]; rfl
  have N0 := Fr.nil n0
  obtain ⟨cl, Ar, Sa, Ha⟩ := V1
  show OwnG p.tables e below s ({ frames := 1, cells := 1, slots := 8, locals := 40 } : Room) (Q5 Z a1 n n' f h0 n0) (s₁.setTop (entryFrame m #[(.ref a1), (.int (Int32.ofNat n'))] 3))
  refine OwnG.go (fun tz kz => castTop (ef_5 m a1 (Int32.ofNat n')) kz) ?_
  show OwnG _ _ _ _ _ _ (s₁.setTop (mkF m 0 #[.val (.ref a1), .val (.int (Int32.ofNat n')), .unset] []))
  refine OwnG.go (fun _ kz => XS.iloadN X0.here hx rfl (hb hby d5_0) rfl kz) ?_
  show OwnG _ _ _ _ _ _ (s₁.setTop (mkF m 1 #[.val (.ref a1), .val (.int (Int32.ofNat n')), .unset] [(.int (Int32.ofNat n'))]))
  refine OwnG.go (fun _ kz => XS.aloadN X0.here hx rfl (hb hby d5_1) rfl rfl kz) ?_
  show OwnG _ _ _ _ _ _ (s₁.setTop (mkF m 2 #[.val (.ref a1), .val (.int (Int32.ofNat n')), .unset] [(.ref a1), (.int (Int32.ofNat n'))]))
  refine OwnG.go (fun _ kz => X0.arraylength hx (by rw [e0]; exact Ar.1) (State.isArrayOf_alike hZ.alike Ar.2.1) (g := (mkF m 2 #[.val (.ref a1), .val (.int (Int32.ofNat n')), .unset] [(.ref a1), (.int (Int32.ofNat n'))])) rfl rfl (hb hby d5_2) _ kz) ?_
  rw [Sa]
  show OwnG _ _ _ _ _ _ (s₁.setTop (mkF m 3 #[.val (.ref a1), .val (.int (Int32.ofNat n')), .unset] [(.int (Int32.ofNat n)), (.int (Int32.ofNat n'))]))
  refine OwnG.go (fun _ kz => XS.icmpYes X0.here hx rfl (pc0 := 3) (pc' := 14) rfl (hb hby d5_3) rfl (feq (fun q => by have := (own_eq (by omega) (by omega)).mp q; omega)).2 (by decide) (by decide) kz) ?_
  show OwnG _ _ _ _ _ _ (s₁.setTop (mkF m 14 #[.val (.ref a1), .val (.int (Int32.ofNat n')), .unset] []))
  refine OwnG.go (fun _ kz => XS.iloadN X0.here hx rfl (hb hby d5_14) rfl kz) ?_
  show OwnG _ _ _ _ _ _ (s₁.setTop (mkF m 15 #[.val (.ref a1), .val (.int (Int32.ofNat n')), .unset] [(.int (Int32.ofNat n'))]))
  obtain ⟨T1, h1, k1, X1, e1, E1, A1, st1⟩ := newP X0 hx hZ (hw _ (List.mem_of_getElem? (i := 9) rfl)) e0 (g := (mkF m 15 #[.val (.ref a1), .val (.int (Int32.ofNat n')), .unset] [(.int (Int32.ofNat n'))])) rfl (hb hby d5_15) rfl (own_nneg (by omega)) (cap := 8) (by rw [own_nat (by omega)]; omega) (by decide) (by decide) (by decide)
  obtain ⟨b1, g1⟩ : ∃ z, z = h0.size := ⟨_, rfl⟩
  rw [← g1] at A1 st1
  refine OwnG.go st1 ?_
  show OwnG _ _ _ _ _ _ (T1.setTop (mkF m 17 #[.val (.ref a1), .val (.int (Int32.ofNat n')), .unset] [(.ref b1)]))
  have Ar1 := Ar.ext E1
  have gb : n0 ≤ b1 := Nat.le_trans Z0 (Nat.le_of_eq g1.symm)
  have Z1 : n0 ≤ h1.size := Nat.le_trans Z0 E1.1
  refine OwnG.go (fun _ kz => XS.astoreN X1.here hx rfl (hb hby d5_17) rfl rfl (l' := #[.val (.ref a1), .val (.int (Int32.ofNat n')), .val (.ref b1)]) rfl kz) ?_
  show OwnG _ _ _ _ _ _ (T1.setTop (mkF m 18 #[.val (.ref a1), .val (.int (Int32.ofNat n')), .val (.ref b1)] []))
  refine OwnG.go (fun _ kz => XS.aloadN X1.here hx rfl (hb hby d5_18) rfl rfl kz) ?_
  show OwnG _ _ _ _ _ _ (T1.setTop (mkF m 19 #[.val (.ref a1), .val (.int (Int32.ofNat n')), .val (.ref b1)] [(.ref a1)]))
  refine OwnG.go (fun _ kz => XS.iconst X1.here hx rfl (hb hby d5_19) kz) ?_
  show OwnG _ _ _ _ _ _ (T1.setTop (mkF m 20 #[.val (.ref a1), .val (.int (Int32.ofNat n')), .val (.ref b1)] [(.int (0 : Int32)), (.ref a1)]))
  refine OwnG.go (fun _ kz => XS.aloadN X1.here hx rfl (hb hby d5_20) rfl rfl kz) ?_
  show OwnG _ _ _ _ _ _ (T1.setTop (mkF m 21 #[.val (.ref a1), .val (.int (Int32.ofNat n')), .val (.ref b1)] [(.ref b1), (.int (0 : Int32)), (.ref a1)]))
  refine OwnG.go (fun _ kz => XS.iconst X1.here hx rfl (hb hby d5_21) kz) ?_
  show OwnG _ _ _ _ _ _ (T1.setTop (mkF m 22 #[.val (.ref a1), .val (.int (Int32.ofNat n')), .val (.ref b1)] [(.int (0 : Int32)), (.ref b1), (.int (0 : Int32)), (.ref a1)]))
  refine OwnG.go (fun _ kz => XS.aloadN X1.here hx rfl (hb hby d5_22) rfl rfl kz) ?_
  show OwnG _ _ _ _ _ _ (T1.setTop (mkF m 23 #[.val (.ref a1), .val (.int (Int32.ofNat n')), .val (.ref b1)] [(.ref a1), (.int (0 : Int32)), (.ref b1), (.int (0 : Int32)), (.ref a1)]))
  refine OwnG.go (fun _ kz => X1.arraylength hx (by rw [e1]; exact Ar1.1) (State.isArrayOf_alike hZ.alike Ar1.2.1) (g := (mkF m 23 #[.val (.ref a1), .val (.int (Int32.ofNat n')), .val (.ref b1)] [(.ref a1), (.int (0 : Int32)), (.ref b1), (.int (0 : Int32)), (.ref a1)])) rfl rfl (hb hby d5_23) _ kz) ?_
  rw [Sa]
  show OwnG _ _ _ _ _ _ (T1.setTop (mkF m 24 #[.val (.ref a1), .val (.int (Int32.ofNat n')), .val (.ref b1)] [(.int (Int32.ofNat n)), (.int (0 : Int32)), (.ref b1), (.int (0 : Int32)), (.ref a1)]))
  refine OwnG.go (fun _ kz => XS.iloadN X1.here hx rfl (hb hby d5_24) rfl kz) ?_
  show OwnG _ _ _ _ _ _ (T1.setTop (mkF m 25 #[.val (.ref a1), .val (.int (Int32.ofNat n')), .val (.ref b1)] [(.int (Int32.ofNat n')), (.int (Int32.ofNat n)), (.int (0 : Int32)), (.ref b1), (.int (0 : Int32)), (.ref a1)]))
  obtain ⟨_, _, ⟨T2, L2, k2, n2⟩, -, X2, ⟨Lc2, hQ2, l2, y2, z2⟩, st2⟩ := Jvm.LawKit.callS X1 hx (y := (⟨"java/lang/Math", "min", "(II)I"⟩ : MethodName)) hown (mvT hZ (hw _ (List.mem_of_getElem? (i := 28) rfl))) (mvT hZ (hw _ (List.mem_of_getElem? (i := 29) rfl))) (mvT hZ (hw _ (List.mem_of_getElem? (i := 30) rfl))) (mvT hZ (hw _ (List.mem_of_getElem? (i := 31) rfl))) (by decide) (backOf (W := 4) (rm6 l Z a0 hw [] (Int32.ofNat n) (Int32.ofNat n') h1 n0 Z1) hZ (hw _ (List.mem_of_getElem? (i := 31) rfl)) (hw _ (List.mem_of_getElem? (i := 30) rfl)) (by decide) (by decide)) (g := (mkF m 25 #[.val (.ref a1), .val (.int (Int32.ofNat n')), .val (.ref b1)] [(.int (Int32.ofNat n')), (.int (Int32.ofNat n)), (.int (0 : Int32)), (.ref b1), (.int (0 : Int32)), (.ref a1)])) rfl (by rw [hml]; rfl) (argsL := [(.int (Int32.ofNat n)), (.int (Int32.ofNat n'))]) (rest := [(.int (0 : Int32)), (.ref b1), (.int (0 : Int32)), (.ref a1)]) (lenOf pd_6 rfl) rfl (by show 2 * 0 + _ ≤ _; exact Nat.le_of_eq rfl) (hb hby d5_25) (fun _ _ => ⟨rfl, e1, (by decide : 1 + 0 ≤ _), (by decide : 8 + 0 ≤ _)⟩)
  dsimp only [Pt.U, Pt.locs, Pt.cells, Pt.slots] at X2 l2 y2 z2 st2 hQ2
  subst l2 y2 z2
  obtain ⟨rfl, N2q, hh2⟩ := hQ2
  have N2 := Fr.app N0 N2q
  refine OwnG.go (fun tz kz => st2 tz kz) ?_
  show OwnG _ _ _ _ _ _ (T2.setTop (mkF m 28 #[.val (.ref a1), .val (.int (Int32.ofNat n')), .val (.ref b1)] [(.int (own_min (Int32.ofNat n) (Int32.ofNat n'))), (.int (0 : Int32)), (.ref b1), (.int (0 : Int32)), (.ref a1)]))
  rw [own_min_l (by omega) (by omega) (by omega)]
  show OwnG _ _ _ _ _ _ (T2.setTop (mkF m 28 #[.val (.ref a1), .val (.int (Int32.ofNat n')), .val (.ref b1)] [(.int (Int32.ofNat n)), (.int (0 : Int32)), (.ref b1), (.int (0 : Int32)), (.ref a1)]))
  obtain ⟨kA, VA⟩ := OwnA.arv (⟨cl, Ar1, Sa, Ha⟩ : OwnA Z h1 a1 n f) (by omega)
  have VB : Arv Z h1 b1 k1 .int (Int32.ofNat n') (List.replicate n' (.int (0 : Int32))) (.int (0 : Int32)) := (Arv.new A1 (own_nneg (by omega))).pad (pad_rep [] (.int (0 : Int32)) n')
  obtain ⟨T3, h3, L3, X3, e3, N3, K3, V3, st3⟩ := cpA X2 hx hZ hown (hw _ (List.mem_of_getElem? (i := 32) rfl)) (hw _ (List.mem_of_getElem? (i := 35) rfl)) (hw _ (List.mem_of_getElem? (i := 33) rfl)) (hw _ (List.mem_of_getElem? (i := 34) rfl)) hh2 VA VB (Or.inl ⟨rfl, rfl⟩) (sp := (0 : Int32)) (dp := (0 : Int32)) (nn := Int32.ofNat n) (by decide) (by decide) (own_nneg (by omega)) (by rw [own_nat (k := n) (by omega)]; show 0 + n ≤ n; omega) (by rw [own_nat (k := n) (by omega), own_nat (k := n') (by omega)]; show 0 + n ≤ n'; omega) rfl (by rw [own_nat (k := n) (by omega), List.length_replicate]; show 0 + n ≤ n'; omega) N2 gb (g := (mkF m 28 #[.val (.ref a1), .val (.int (Int32.ofNat n')), .val (.ref b1)] [(.int (Int32.ofNat n)), (.int (0 : Int32)), (.ref b1), (.int (0 : Int32)), (.ref a1)])) rfl (by rw [hml]; rfl) rfl (hb hby d5_28) (by decide) (W := 0) (by show 2 * 0 + _ ≤ _; exact Nat.le_of_eq rfl) (by decide)
  have V9 : OwnA Z h3 b1 n' (fun i => if i < n then f i else 0) := OwnA.of V3 (by omega) (own_copy (by omega) (by omega))
  refine OwnG.go st3 ?_
  show OwnG _ _ _ _ _ _ (T3.setTop (mkF m 31 #[.val (.ref a1), .val (.int (Int32.ofNat n')), .val (.ref b1)] []))
  refine OwnG.go (fun _ kz => XS.aloadN X3.here hx rfl (hb hby d5_31) rfl rfl kz) ?_
  show OwnG _ _ _ _ _ _ (T3.setTop (mkF m 32 #[.val (.ref a1), .val (.int (Int32.ofNat n')), .val (.ref b1)] [(.ref b1)]))
  obtain ⟨fs, hr, hrun, hended, hW, hsame⟩ := X3.leave (v := some (.ref b1)) (fun h => by rw [Bd.returns] at h; cases h)
  refine ⟨_, _, ?_, hrun, hended, _, _, rfl, ?_, ⟨_, rfl⟩, hW, hsame.mono (by decide) (by decide)⟩
  · show Steps p.tables e below (T3.setTop (mkF m 32 #[.val (.ref a1), .val (.int (Int32.ofNat n')), .val (.ref b1)] [(.ref b1)])) _
    jvm_step X3.here [X3.here.top, hx, (hb hby d5_32), X3.method', Bd.returns, Value.isRef, FieldType.isReference]
    first | (intro acts; rw [hr _ acts rfl rfl rfl]) | rw [hr _ _ rfl rfl rfl]
    exact Steps.refl _
  show (Q5 Z a1 n n' f h0 n0) _ T3.heap _
  rw [e3]
  exact ⟨by rw [g1], N3, ((Keep.refl h0 []).ext E1).trans K3 (allS (Or.inr (Nat.le_of_eq g1.symm)) all0), by rw [← g1]; exact V9⟩
theorem d1_0 : decode prog_4_method_1_code 0 = .ok (.aload_n 0, 1) := by decide +kernel
theorem d1_1 : decode prog_4_method_1_code 1 = .ok (.invokespecial 1, 3) := by decide +kernel
theorem d1_4 : decode prog_4_method_1_code 4 = .ok (.aload_n 0, 1) := by decide +kernel
theorem d1_5 : decode prog_4_method_1_code 5 = .ok (.iconst 4, 1) := by decide +kernel
theorem d1_6 : decode prog_4_method_1_code 6 = .ok (.newarray .int, 2) := by decide +kernel
theorem d1_8 : decode prog_4_method_1_code 8 = .ok (.putfield 7, 3) := by decide +kernel
theorem d1_11 : decode prog_4_method_1_code 11 = .ok (.return_, 1) := by decide +kernel
theorem pn_1 : plainName "com/example/saturate/saturate/ints/IntList" = true := by first | (simp [plainName, overriddenIn]; done) | decide +kernel
theorem ef_1 (m : MethodId) (x0 : Addr) : entryFrame m #[(.ref x0)] 1 = mkF m 0 #[.val (.ref x0)] [] := by first | (simp [entryFrame, mkF, argsToLocals, Value.category]; done) | rfl
def Q1 (Z : State) (a1 : Addr) (h0 : Heap) (n0 : Nat) (v : Option Value) (h : Heap) (L : List Loc) : Prop := v = none ∧ Fr n0 L ∧ OwnS Z h n0 a1 0
set_option maxRecDepth 65536 in
set_option maxHeartbeats 40000000 in
theorem rm1 (l : Launch) (Z : State) (a0 : Array Value) (hw : ∀ d ∈ tables_1, d.before a0 Z = true) (ws : List Jvm.Cond) (a1 : Addr) (h0 : Heap) (n0 : Nat) (Z0 : n0 ≤ h0.size) (E1 : Exa Z h0 a1 "com/example/saturate/saturate/ints/IntList") (Fs : Fld Z h0 a1 "com/example/saturate/saturate/ints/IntList" "size" "I" (.int (0 : Int32))) (Fi : Fld Z h0 a1 "com/example/saturate/saturate/ints/IntList" "items" "[I" .null) (ga : n0 ≤ a1) :
    MetFree l (⟨"com/example/saturate/saturate/ints/IntList", "<init>", "()V"⟩ : MethodName) (head1 (Jvm.Cond.code (⟨"com/example/saturate/saturate/ints/IntList", "<init>", "()V"⟩ : MethodName) prog_4_method_1_code 1 none :: ws) ({ frames := 1, cells := 1, slots := 4, locals := 12 } : Room)) (fun a U => a = #[(.ref a1)] ∧ Z.Warmed39 U.vm ∧ U.heap = h0) (fun _ _ _ _ _ => True) (fun _ U o U' => ∃ v L, o = .returned v ∧ (Q1 Z a1 h0 n0) v U'.heap L ∧ FrameEnd U o U' L ({ frames := 1, cells := 1, slots := 4, locals := 12 } : Room).cells ({ frames := 1, cells := 1, slots := 4, locals := 12 } : Room).slots) := by
  refine MetFree.of_bodySF (plainFor_of_name pn_1) hisR ?_
  intro p e s m args below meth c s₁ Bd hml0 hP hK
  obtain ⟨rfl, hZ, hh⟩ := hP
  have hx := Bd.exec
  have hby := Bd.bytes
  have hml : c.maxLocals = 1 := hml0
  have hown : s.vm.findClass "com/example/saturate/saturate/ints/IntList" = some m.cls := (findClass_of_methodNamed Bd.named :)
  have hnm := (name_of_methodNamed Bd.named Bd.method).1
  have X0 : Stand p l e ({ frames := 1, cells := 1, slots := 4, locals := 12 } : Room) s m #[(.ref a1)] below meth c s₁ [] 0 0 := Stand.of_body Bd
  have e0 : s₁.heap = h0 := by rw [← hh, Bd.state]; rfl
  have N0 := Fr.nil n0
  show OwnG p.tables e below s ({ frames := 1, cells := 1, slots := 4, locals := 12 } : Room) (Q1 Z a1 h0 n0) (s₁.setTop (entryFrame m #[(.ref a1)] 1))
  refine OwnG.go (fun tz kz => castTop (ef_1 m a1) kz) ?_
  show OwnG _ _ _ _ _ _ (s₁.setTop (mkF m 0 #[.val (.ref a1)] []))
  refine OwnG.go (fun _ kz => XS.aloadN X0.here hx rfl (hb hby d1_0) rfl rfl kz) ?_
  show OwnG _ _ _ _ _ _ (s₁.setTop (mkF m 1 #[.val (.ref a1)] [(.ref a1)]))
  obtain ⟨T1, X1, e1, st1⟩ := initO X0 hx hZ hown (hw _ (List.mem_of_getElem? (i := 6) rfl)) (hw _ (List.mem_of_getElem? (i := 7) rfl)) (hw _ (List.mem_of_getElem? (i := 8) rfl)) e0 (g := (mkF m 1 #[.val (.ref a1)] [(.ref a1)])) rfl (by rw [hml]; rfl) rfl (hb hby d1_1) (by decide) (W := 0) (by show 2 * 0 + _ ≤ _; exact Nat.le_of_eq rfl) (by decide)
  refine OwnG.go st1 ?_
  show OwnG _ _ _ _ _ _ (T1.setTop (mkF m 4 #[.val (.ref a1)] []))
  refine OwnG.go (fun _ kz => XS.aloadN X1.here hx rfl (hb hby d1_4) rfl rfl kz) ?_
  show OwnG _ _ _ _ _ _ (T1.setTop (mkF m 5 #[.val (.ref a1)] [(.ref a1)]))
  refine OwnG.go (fun _ kz => XS.iconst X1.here hx rfl (hb hby d1_5) kz) ?_
  show OwnG _ _ _ _ _ _ (T1.setTop (mkF m 6 #[.val (.ref a1)] [(.int (4 : Int32)), (.ref a1)]))
  obtain ⟨T2, h2, k2, X2, e2, E2, A2, st2⟩ := newP X1 hx hZ (hw _ (List.mem_of_getElem? (i := 9) rfl)) e1 (g := (mkF m 6 #[.val (.ref a1)] [(.int (4 : Int32)), (.ref a1)])) rfl (hb hby d1_6) rfl (by decide) (cap := 4) (by decide) (by decide) (by decide) (by decide)
  obtain ⟨b2, g2⟩ : ∃ z, z = h0.size := ⟨_, rfl⟩
  rw [← g2] at A2 st2
  refine OwnG.go st2 ?_
  show OwnG _ _ _ _ _ _ (T2.setTop (mkF m 8 #[.val (.ref a1)] [(.ref b2), (.ref a1)]))
  have V1 : OwnA Z h2 b2 4 (fun _ => 0) := OwnA.of (Arv.new A2 (by decide)) (by decide) (fun i _ => by simp)
  have gb : n0 ≤ b2 := Nat.le_trans Z0 (Nat.le_of_eq g2.symm)
  have Z1 : n0 ≤ h2.size := Nat.le_trans Z0 E2.1
  have neb : a1 ≠ b2 := Nat.ne_of_lt (Nat.lt_of_lt_of_le E1.lt (Nat.le_of_eq g2.symm))
  have Ea := E1.ext E2
  have Fs2 := Fs.ext E2
  have Fi2 := Fi.ext E2
  obtain ⟨T3, h3, X3, e3, W3, st3⟩ := putF X2 hx hZ hown (host := "") (Or.inl (hw _ (List.mem_of_getElem? (i := 10) rfl))) Via.refl e2 Fi2 Ea (Or.inl (hw _ (List.mem_of_getElem? (i := 11) rfl))) (hw _ (List.mem_of_getElem? (i := 1) rfl)) (ty := (.array .int)) (by decide) rfl rfl (g := (mkF m 8 #[.val (.ref a1)] [(.ref b2), (.ref a1)])) rfl rfl (hb hby d1_8)
  have Fw3 := Fi2.same W3
  have N3 := Fr.snoc X3 N0 ga
  refine OwnG.go st3 ?_
  show OwnG _ _ _ _ _ _ (T3.setTop (mkF m 11 #[.val (.ref a1)] []))
  obtain ⟨fs, hr, hrun, hended, hW, hsame⟩ := X3.leave (v := none) (fun _ => rfl)
  refine ⟨_, _, X3.returnOut hx Bd.returns (hb hby d1_11) hr, hrun, hended, _, _, rfl, ?_, ⟨_, rfl⟩, hW, hsame.mono (by decide) (by decide)⟩
  show (Q1 Z a1 h0 n0) _ T3.heap _
  rw [e3]
  exact ⟨rfl, N3, Nat.le_trans Z1 (Keep.of_wr W3).1, ga, Ea.wr W3, Fs2.other W3 (Or.inr (slot_ne (Or.inl (hw _ (List.mem_of_getElem? (i := 18) rfl))) (Or.inl (hw _ (List.mem_of_getElem? (i := 11) rfl))) (by decide) (t := .int) (t' := (.array .int)) (by decide) (by decide))), b2, 4, _, Fw3, V1.other W3 (Ne.symm neb), gb, neb, by decide, by decide, by decide⟩
theorem d3_0 : decode prog_4_method_2_code 0 = .ok (.aload_n 0, 1) := by decide +kernel
theorem d3_1 : decode prog_4_method_2_code 1 = .ok (.getfield 13, 3) := by decide +kernel
theorem d3_4 : decode prog_4_method_2_code 4 = .ok (.aload_n 0, 1) := by decide +kernel
theorem d3_5 : decode prog_4_method_2_code 5 = .ok (.getfield 7, 3) := by decide +kernel
theorem d3_8 : decode prog_4_method_2_code 8 = .ok (.arraylength, 1) := by decide +kernel
theorem d3_9 : decode prog_4_method_2_code 9 = .ok (.if_icmp .ne 20, 3) := by decide +kernel
theorem d3_12 : decode prog_4_method_2_code 12 = .ok (.aload_n 0, 1) := by decide +kernel
theorem d3_13 : decode prog_4_method_2_code 13 = .ok (.aload_n 0, 1) := by decide +kernel
theorem d3_14 : decode prog_4_method_2_code 14 = .ok (.getfield 7, 3) := by decide +kernel
theorem d3_17 : decode prog_4_method_2_code 17 = .ok (.aload_n 0, 1) := by decide +kernel
theorem d3_18 : decode prog_4_method_2_code 18 = .ok (.getfield 13, 3) := by decide +kernel
theorem d3_21 : decode prog_4_method_2_code 21 = .ok (.iconst 2, 1) := by decide +kernel
theorem d3_22 : decode prog_4_method_2_code 22 = .ok (.imul, 1) := by decide +kernel
theorem d3_23 : decode prog_4_method_2_code 23 = .ok (.invokestatic 17, 3) := by decide +kernel
theorem d3_26 : decode prog_4_method_2_code 26 = .ok (.putfield 7, 3) := by decide +kernel
theorem d3_29 : decode prog_4_method_2_code 29 = .ok (.aload_n 0, 1) := by decide +kernel
theorem d3_30 : decode prog_4_method_2_code 30 = .ok (.getfield 7, 3) := by decide +kernel
theorem d3_33 : decode prog_4_method_2_code 33 = .ok (.aload_n 0, 1) := by decide +kernel
theorem d3_34 : decode prog_4_method_2_code 34 = .ok (.dup, 1) := by decide +kernel
theorem d3_35 : decode prog_4_method_2_code 35 = .ok (.getfield 13, 3) := by decide +kernel
theorem d3_38 : decode prog_4_method_2_code 38 = .ok (.dup_x1, 1) := by decide +kernel
theorem d3_39 : decode prog_4_method_2_code 39 = .ok (.iconst 1, 1) := by decide +kernel
theorem d3_40 : decode prog_4_method_2_code 40 = .ok (.iadd, 1) := by decide +kernel
theorem d3_41 : decode prog_4_method_2_code 41 = .ok (.putfield 13, 3) := by decide +kernel
theorem d3_44 : decode prog_4_method_2_code 44 = .ok (.iload_n 1, 1) := by decide +kernel
theorem d3_45 : decode prog_4_method_2_code 45 = .ok (.iastore, 1) := by decide +kernel
theorem d3_46 : decode prog_4_method_2_code 46 = .ok (.return_, 1) := by decide +kernel
theorem pn_3 : plainName "com/example/saturate/saturate/ints/IntList" = true := by first | (simp [plainName, overriddenIn]; done) | decide +kernel
theorem ef_3 (m : MethodId) (x0 : Addr) (x1 : Int32) : entryFrame m #[(.ref x0), (.int x1)] 2 = mkF m 0 #[.val (.ref x0), .val (.int x1)] [] := by first | (simp [entryFrame, mkF, argsToLocals, Value.category]; done) | rfl
def Q3 (Z : State) (a1 : Addr) (p2 : Int32) (sz : Nat) (h0 : Heap) (n0 : Nat) (v : Option Value) (h : Heap) (L : List Loc) : Prop := v = none ∧ Fr n0 L ∧ OwnS Z h n0 a1 (sz + 1)
set_option maxRecDepth 65536 in
set_option maxHeartbeats 40000000 in
theorem rm3 (l : Launch) (Z : State) (a0 : Array Value) (hw : ∀ d ∈ tables_1, d.before a0 Z = true) (ws : List Jvm.Cond) (a1 : Addr) (p2 : Int32) (sz : Nat) (h0 : Heap) (n0 : Nat) (Z0 : n0 ≤ h0.size) (S1 : OwnS Z h0 n0 a1 sz) (hsz : sz ≤ 4) :
    MetFree l (⟨"com/example/saturate/saturate/ints/IntList", "add", "(I)V"⟩ : MethodName) (head1 (Jvm.Cond.code (⟨"com/example/saturate/saturate/ints/IntList", "add", "(I)V"⟩ : MethodName) prog_4_method_2_code 2 none :: ws) ({ frames := 2, cells := 1, slots := 8, locals := 55 } : Room)) (fun a U => a = #[(.ref a1), (.int p2)] ∧ Z.Warmed39 U.vm ∧ U.heap = h0) (fun _ _ _ _ _ => True) (fun _ U o U' => ∃ v L, o = .returned v ∧ (Q3 Z a1 p2 sz h0 n0) v U'.heap L ∧ FrameEnd U o U' L ({ frames := 2, cells := 1, slots := 8, locals := 55 } : Room).cells ({ frames := 2, cells := 1, slots := 8, locals := 55 } : Room).slots) := by
  refine MetFree.of_bodySF (plainFor_of_name pn_3) hisR ?_
  intro p e s m args below meth c s₁ Bd hml0 hP hK
  obtain ⟨rfl, hZ, hh⟩ := hP
  have hx := Bd.exec
  have hby := Bd.bytes
  have hml : c.maxLocals = 2 := hml0
  have hown : s.vm.findClass "com/example/saturate/saturate/ints/IntList" = some m.cls := (findClass_of_methodNamed Bd.named :)
  have hnm := (name_of_methodNamed Bd.named Bd.method).1
  have X0 : Stand p l e ({ frames := 2, cells := 1, slots := 8, locals := 55 } : Room) s m #[(.ref a1), (.int p2)] below meth c s₁ [] 0 0 := Stand.of_body Bd
  have e0 : s₁.heap = h0 := by rw [← hh, Bd.state]; rfl
  have N0 := Fr.nil n0
  obtain ⟨Zs, ga, E1, Fs, t, cap, f, Fi, V, gt, ne, hq1, hq2, hq3⟩ := S1
  have B29 : ∀ (T : State) (Lx : List Loc) (t' : Addr) (cap' : Nat) (f' : Nat → Int32), Stand p l e ({ frames := 2, cells := 1, slots := 8, locals := 55 } : Room) s m #[(.ref a1), (.int p2)] below meth c T Lx 1 8 → n0 ≤ T.heap.size → Exa Z T.heap a1 "com/example/saturate/saturate/ints/IntList" → Fld Z T.heap a1 "com/example/saturate/saturate/ints/IntList" "size" "I" (.int (Int32.ofNat sz)) → Fld Z T.heap a1 "com/example/saturate/saturate/ints/IntList" "items" "[I" (.ref t') → OwnA Z T.heap t' cap' f' → n0 ≤ t' → a1 ≠ t' → sz < cap' → cap' ≤ 8 → Fr n0 Lx → OwnG p.tables e below s ({ frames := 2, cells := 1, slots := 8, locals := 55 } : Room) (Q3 Z a1 p2 sz h0 n0) (T.setTop (mkF m 29 #[.val (.ref a1), .val (.int p2)] [])) := by
    intro T Lx t' cap' f' X Z9 E9 Fs9 Fi9 V9 gt9 ne9 hc9 hc8 NN
    show OwnG _ _ _ _ _ _ (T.setTop (mkF m 29 #[.val (.ref a1), .val (.int p2)] []))
    refine OwnG.go (fun _ kz => XS.aloadN X.here hx rfl (hb hby d3_29) rfl rfl kz) ?_
    show OwnG _ _ _ _ _ _ (T.setTop (mkF m 30 #[.val (.ref a1), .val (.int p2)] [(.ref a1)]))
    obtain ⟨T1, X1, e1, st1⟩ := getF X hx hZ hown (host := "") (Or.inl (hw _ (List.mem_of_getElem? (i := 10) rfl))) Via.refl (rfl : T.heap = T.heap) Fi9 (g := (mkF m 30 #[.val (.ref a1), .val (.int p2)] [(.ref a1)])) rfl rfl (hb hby d3_30)
    refine OwnG.go st1 ?_
    show OwnG _ _ _ _ _ _ (T1.setTop (mkF m 33 #[.val (.ref a1), .val (.int p2)] [(.ref t')]))
    refine OwnG.go (fun _ kz => XS.aloadN X1.here hx rfl (hb hby d3_33) rfl rfl kz) ?_
    show OwnG _ _ _ _ _ _ (T1.setTop (mkF m 34 #[.val (.ref a1), .val (.int p2)] [(.ref a1), (.ref t')]))
    refine OwnG.go (fun _ kz => XS.dup X1.here hx rfl (hb hby d3_34) rfl rfl kz) ?_
    show OwnG _ _ _ _ _ _ (T1.setTop (mkF m 35 #[.val (.ref a1), .val (.int p2)] [(.ref a1), (.ref a1), (.ref t')]))
    obtain ⟨T2, X2, e2, st2⟩ := getF X1 hx hZ hown (host := "") (Or.inl (hw _ (List.mem_of_getElem? (i := 17) rfl))) Via.refl e1 Fs9 (g := (mkF m 35 #[.val (.ref a1), .val (.int p2)] [(.ref a1), (.ref a1), (.ref t')])) rfl rfl (hb hby d3_35)
    refine OwnG.go st2 ?_
    show OwnG _ _ _ _ _ _ (T2.setTop (mkF m 38 #[.val (.ref a1), .val (.int p2)] [(.int (Int32.ofNat sz)), (.ref a1), (.ref t')]))
    refine OwnG.go (fun _ kz => XS.dupX1 X2.here hx rfl (hb hby d3_38) rfl rfl rfl kz) ?_
    show OwnG _ _ _ _ _ _ (T2.setTop (mkF m 39 #[.val (.ref a1), .val (.int p2)] [(.int (Int32.ofNat sz)), (.ref a1), (.int (Int32.ofNat sz)), (.ref t')]))
    refine OwnG.go (fun _ kz => XS.iconst X2.here hx rfl (hb hby d3_39) kz) ?_
    show OwnG _ _ _ _ _ _ (T2.setTop (mkF m 40 #[.val (.ref a1), .val (.int p2)] [(.int (1 : Int32)), (.int (Int32.ofNat sz)), (.ref a1), (.int (Int32.ofNat sz)), (.ref t')]))
    refine OwnG.go (fun _ kz => XS.iadd X2.here hx rfl (hb hby d3_40) rfl kz) ?_
    show OwnG _ _ _ _ _ _ (T2.setTop (mkF m 41 #[.val (.ref a1), .val (.int p2)] [(.int ((Int32.ofNat sz) + (1 : Int32))), (.ref a1), (.int (Int32.ofNat sz)), (.ref t')]))
    rw [own_one]
    show OwnG _ _ _ _ _ _ (T2.setTop (mkF m 41 #[.val (.ref a1), .val (.int p2)] [(.int (Int32.ofNat (sz + 1))), (.ref a1), (.int (Int32.ofNat sz)), (.ref t')]))
    obtain ⟨T3, h3, X3, e3, W3, st3⟩ := putF X2 hx hZ hown (host := "") (Or.inl (hw _ (List.mem_of_getElem? (i := 17) rfl))) Via.refl e2 Fs9 E9 (Or.inl (hw _ (List.mem_of_getElem? (i := 18) rfl))) (hw _ (List.mem_of_getElem? (i := 1) rfl)) (ty := .int) (by decide) rfl rfl (g := (mkF m 41 #[.val (.ref a1), .val (.int p2)] [(.int (Int32.ofNat (sz + 1))), (.ref a1), (.int (Int32.ofNat sz)), (.ref t')])) rfl rfl (hb hby d3_41)
    have Fw3 := Fs9.same W3
    have N3 := Fr.snoc X3 NN ga
    refine OwnG.go st3 ?_
    show OwnG _ _ _ _ _ _ (T3.setTop (mkF m 44 #[.val (.ref a1), .val (.int p2)] [(.int (Int32.ofNat sz)), (.ref t')]))
    have E8 := E9.wr W3
    have Fi8 := Fi9.other W3 (Or.inr (slot_ne (Or.inl (hw _ (List.mem_of_getElem? (i := 11) rfl))) (Or.inl (hw _ (List.mem_of_getElem? (i := 18) rfl))) (by decide) (t := (.array .int)) (t' := .int) (by decide) (by decide)))
    have V8 := V9.other W3 (Ne.symm ne9)
    have Z8 := Nat.le_trans Z9 (Keep.of_wr W3).1
    obtain ⟨cl, Ar, Sa, Ha⟩ := V8
    refine OwnG.go (fun _ kz => XS.iloadN X3.here hx rfl (hb hby d3_44) rfl kz) ?_
    show OwnG _ _ _ _ _ _ (T3.setTop (mkF m 45 #[.val (.ref a1), .val (.int p2)] [(.int p2), (.int (Int32.ofNat sz)), (.ref t')]))
    obtain ⟨T4, h4, X4, e4, W4, st4⟩ := stI X3 hx hZ e3 Ar (j := (Int32.ofNat sz)) (own_inb Sa hc9 (by omega)) (g := (mkF m 45 #[.val (.ref a1), .val (.int p2)] [(.int p2), (.int (Int32.ofNat sz)), (.ref t')])) rfl rfl (hb hby d3_45)
    have N4 := Fr.snoc X4 N3 gt9
    refine OwnG.go st4 ?_
    show OwnG _ _ _ _ _ _ (T4.setTop (mkF m 46 #[.val (.ref a1), .val (.int p2)] []))
    have V7 := OwnA.set Ar Sa Ha hc9 (by omega) W4
    obtain ⟨fs, hr, hrun, hended, hW, hsame⟩ := X4.leave (v := none) (fun _ => rfl)
    refine ⟨_, _, X4.returnOut hx Bd.returns (hb hby d3_46) hr, hrun, hended, _, _, rfl, ?_, ⟨_, rfl⟩, hW, hsame.mono (by decide) (by decide)⟩
    show (Q3 Z a1 p2 sz h0 n0) _ T4.heap _
    rw [e4]
    exact ⟨rfl, N4, Nat.le_trans Z8 (Keep.of_wr W4).1, ga, E8.wr W4, Fw3.other W4 (Or.inl ne9), t', cap', _, Fi8.other W4 (Or.inl ne9), V7, gt9, ne9, by omega, by omega, hc8⟩
  show OwnG p.tables e below s ({ frames := 2, cells := 1, slots := 8, locals := 55 } : Room) (Q3 Z a1 p2 sz h0 n0) (s₁.setTop (entryFrame m #[(.ref a1), (.int p2)] 2))
  refine OwnG.go (fun tz kz => castTop (ef_3 m a1 p2) kz) ?_
  show OwnG _ _ _ _ _ _ (s₁.setTop (mkF m 0 #[.val (.ref a1), .val (.int p2)] []))
  refine OwnG.go (fun _ kz => XS.aloadN X0.here hx rfl (hb hby d3_0) rfl rfl kz) ?_
  show OwnG _ _ _ _ _ _ (s₁.setTop (mkF m 1 #[.val (.ref a1), .val (.int p2)] [(.ref a1)]))
  obtain ⟨T5, X5, e5, st5⟩ := getF X0 hx hZ hown (host := "") (Or.inl (hw _ (List.mem_of_getElem? (i := 17) rfl))) Via.refl e0 Fs (g := (mkF m 1 #[.val (.ref a1), .val (.int p2)] [(.ref a1)])) rfl rfl (hb hby d3_1)
  refine OwnG.go st5 ?_
  show OwnG _ _ _ _ _ _ (T5.setTop (mkF m 4 #[.val (.ref a1), .val (.int p2)] [(.int (Int32.ofNat sz))]))
  refine OwnG.go (fun _ kz => XS.aloadN X5.here hx rfl (hb hby d3_4) rfl rfl kz) ?_
  show OwnG _ _ _ _ _ _ (T5.setTop (mkF m 5 #[.val (.ref a1), .val (.int p2)] [(.ref a1), (.int (Int32.ofNat sz))]))
  obtain ⟨T6, X6, e6, st6⟩ := getF X5 hx hZ hown (host := "") (Or.inl (hw _ (List.mem_of_getElem? (i := 10) rfl))) Via.refl e5 Fi (g := (mkF m 5 #[.val (.ref a1), .val (.int p2)] [(.ref a1), (.int (Int32.ofNat sz))])) rfl rfl (hb hby d3_5)
  refine OwnG.go st6 ?_
  show OwnG _ _ _ _ _ _ (T6.setTop (mkF m 8 #[.val (.ref a1), .val (.int p2)] [(.ref t), (.int (Int32.ofNat sz))]))
  obtain ⟨cl, Ar, Sa, Ha⟩ := id V
  refine OwnG.go (fun _ kz => X6.arraylength hx (by rw [e6]; exact Ar.1) (State.isArrayOf_alike hZ.alike Ar.2.1) (g := (mkF m 8 #[.val (.ref a1), .val (.int p2)] [(.ref t), (.int (Int32.ofNat sz))])) rfl rfl (hb hby d3_8) _ kz) ?_
  rw [Sa]
  show OwnG _ _ _ _ _ _ (T6.setTop (mkF m 9 #[.val (.ref a1), .val (.int p2)] [(.int (Int32.ofNat cap)), (.int (Int32.ofNat sz))]))
  by_cases c1 : (Int32.ofNat sz) = (Int32.ofNat cap)
  · have _u := ()
    refine OwnG.go (fun _ kz => XS.icmpNo X6.here hx rfl (hb hby d3_9) rfl (teq c1).2 kz) ?_
    show OwnG _ _ _ _ _ _ (T6.setTop (mkF m 12 #[.val (.ref a1), .val (.int p2)] []))
    have hc : sz = cap := (own_eq (by omega) (by omega)).mp c1
    refine OwnG.go (fun _ kz => XS.aloadN X6.here hx rfl (hb hby d3_12) rfl rfl kz) ?_
    show OwnG _ _ _ _ _ _ (T6.setTop (mkF m 13 #[.val (.ref a1), .val (.int p2)] [(.ref a1)]))
    refine OwnG.go (fun _ kz => XS.aloadN X6.here hx rfl (hb hby d3_13) rfl rfl kz) ?_
    show OwnG _ _ _ _ _ _ (T6.setTop (mkF m 14 #[.val (.ref a1), .val (.int p2)] [(.ref a1), (.ref a1)]))
    obtain ⟨T7, X7, e7, st7⟩ := getF X6 hx hZ hown (host := "") (Or.inl (hw _ (List.mem_of_getElem? (i := 10) rfl))) Via.refl e6 Fi (g := (mkF m 14 #[.val (.ref a1), .val (.int p2)] [(.ref a1), (.ref a1)])) rfl rfl (hb hby d3_14)
    refine OwnG.go st7 ?_
    show OwnG _ _ _ _ _ _ (T7.setTop (mkF m 17 #[.val (.ref a1), .val (.int p2)] [(.ref t), (.ref a1)]))
    refine OwnG.go (fun _ kz => XS.aloadN X7.here hx rfl (hb hby d3_17) rfl rfl kz) ?_
    show OwnG _ _ _ _ _ _ (T7.setTop (mkF m 18 #[.val (.ref a1), .val (.int p2)] [(.ref a1), (.ref t), (.ref a1)]))
    obtain ⟨T8, X8, e8, st8⟩ := getF X7 hx hZ hown (host := "") (Or.inl (hw _ (List.mem_of_getElem? (i := 17) rfl))) Via.refl e7 Fs (g := (mkF m 18 #[.val (.ref a1), .val (.int p2)] [(.ref a1), (.ref t), (.ref a1)])) rfl rfl (hb hby d3_18)
    refine OwnG.go st8 ?_
    show OwnG _ _ _ _ _ _ (T8.setTop (mkF m 21 #[.val (.ref a1), .val (.int p2)] [(.int (Int32.ofNat sz)), (.ref t), (.ref a1)]))
    refine OwnG.go (fun _ kz => XS.iconst X8.here hx rfl (hb hby d3_21) kz) ?_
    show OwnG _ _ _ _ _ _ (T8.setTop (mkF m 22 #[.val (.ref a1), .val (.int p2)] [(.int (2 : Int32)), (.int (Int32.ofNat sz)), (.ref t), (.ref a1)]))
    refine OwnG.go (fun _ kz => XS.imul X8.here hx rfl (hb hby d3_22) rfl kz) ?_
    show OwnG _ _ _ _ _ _ (T8.setTop (mkF m 23 #[.val (.ref a1), .val (.int p2)] [(.int ((Int32.ofNat sz) * (2 : Int32))), (.ref t), (.ref a1)]))
    rw [own_dbl]
    show OwnG _ _ _ _ _ _ (T8.setTop (mkF m 23 #[.val (.ref a1), .val (.int p2)] [(.int (Int32.ofNat (2 * sz))), (.ref t), (.ref a1)]))
    obtain ⟨_, _, ⟨T9, L9, k9, n9⟩, -, X9, ⟨Lc9, hQ9, l9, y9, z9⟩, st9⟩ := Jvm.LawKit.callS X8 hx (y := (⟨"java/util/Arrays", "copyOf", "([II)[I"⟩ : MethodName)) hown (mvT hZ (hw _ (List.mem_of_getElem? (i := 24) rfl))) (mvT hZ (hw _ (List.mem_of_getElem? (i := 25) rfl))) (mvT hZ (hw _ (List.mem_of_getElem? (i := 26) rfl))) (mvT hZ (hw _ (List.mem_of_getElem? (i := 27) rfl))) (by decide) (backOf (W := 1) (rm5 l Z a0 hw [] t cap (2 * sz) f h0 n0 Z0 V (by omega) (by omega)) hZ (hw _ (List.mem_of_getElem? (i := 27) rfl)) (hw _ (List.mem_of_getElem? (i := 26) rfl)) (by decide) (by decide)) (g := (mkF m 23 #[.val (.ref a1), .val (.int p2)] [(.int (Int32.ofNat (2 * sz))), (.ref t), (.ref a1)])) rfl (by rw [hml]; rfl) (argsL := [(.ref t), (.int (Int32.ofNat (2 * sz)))]) (rest := [(.ref a1)]) (lenOf pd_5 rfl) rfl (by show 2 * 0 + _ ≤ _; exact Nat.le_of_eq rfl) (hb hby d3_23) (fun _ _ => ⟨rfl, e8, (by decide : 0 + 1 ≤ _), (by decide : 0 + 8 ≤ _)⟩)
    dsimp only [Pt.U, Pt.locs, Pt.cells, Pt.slots] at X9 l9 y9 z9 st9 hQ9
    subst l9 y9 z9
    obtain ⟨rfl, N9q, K9, V9⟩ := hQ9
    have N9 := Fr.app N0 N9q
    refine OwnG.go (fun tz kz => st9 tz kz) ?_
    show OwnG _ _ _ _ _ _ (T9.setTop (mkF m 26 #[.val (.ref a1), .val (.int p2)] [(.ref h0.size), (.ref a1)]))
    have Ea := E1.keep K9
    have Fi2 := Fi.keep K9 nin0
    have Fs2 := Fs.keep K9 nin0
    have nez : a1 ≠ h0.size := Nat.ne_of_lt E1.lt
    obtain ⟨T10, h10, X10, e10, W10, st10⟩ := putF X9 hx hZ hown (host := "") (Or.inl (hw _ (List.mem_of_getElem? (i := 10) rfl))) Via.refl (rfl : T9.heap = T9.heap) Fi2 Ea (Or.inl (hw _ (List.mem_of_getElem? (i := 11) rfl))) (hw _ (List.mem_of_getElem? (i := 1) rfl)) (ty := (.array .int)) (by decide) rfl rfl (g := (mkF m 26 #[.val (.ref a1), .val (.int p2)] [(.ref h0.size), (.ref a1)])) rfl rfl (hb hby d3_26)
    have Fw10 := Fi2.same W10
    have N10 := Fr.snoc X10 N9 ga
    refine OwnG.go st10 ?_
    show OwnG _ _ _ _ _ _ (T10.setTop (mkF m 29 #[.val (.ref a1), .val (.int p2)] []))
    exact B29 _ _ h0.size (2 * sz) _ X10 (e10 ▸ Nat.le_trans (Nat.le_trans Z0 K9.1) (Keep.of_wr W10).1) (e10 ▸ Ea.wr W10) (e10 ▸ Fs2.other W10 (Or.inr (slot_ne (Or.inl (hw _ (List.mem_of_getElem? (i := 18) rfl))) (Or.inl (hw _ (List.mem_of_getElem? (i := 11) rfl))) (by decide) (t := .int) (t' := (.array .int)) (by decide) (by decide)))) (e10 ▸ Fw10) (e10 ▸ V9.other W10 (Ne.symm nez)) Z0 nez (by omega) (by omega) N10
  · have _u := ()
    refine OwnG.go (fun _ kz => XS.icmpYes X6.here hx rfl (pc0 := 9) (pc' := 29) rfl (hb hby d3_9) rfl (feq c1).2 (by decide) (by decide) kz) ?_
    show OwnG _ _ _ _ _ _ (T6.setTop (mkF m 29 #[.val (.ref a1), .val (.int p2)] []))
    have hc : sz < cap := by
      have : ¬ sz = cap := fun q => c1 (by rw [q])
      omega
    exact B29 _ _ t cap f (own_stand X6 (by decide) (by decide)) (e6 ▸ Z0) (e6 ▸ E1) (e6 ▸ Fs) (e6 ▸ Fi) (e6 ▸ V) gt ne hc hq3 N0
theorem d7_0 : decode prog_4_method_4_code 0 = .ok (.aload_n 0, 1) := by decide +kernel
theorem d7_1 : decode prog_4_method_4_code 1 = .ok (.getfield 13, 3) := by decide +kernel
theorem d7_4 : decode prog_4_method_4_code 4 = .ok (.ifCond .ne 13, 3) := by decide +kernel
theorem d7_7 : decode prog_4_method_4_code 7 = .ok (.new 29, 3) := by decide +kernel
theorem d7_10 : decode prog_4_method_4_code 10 = .ok (.dup, 1) := by decide +kernel
theorem d7_11 : decode prog_4_method_4_code 11 = .ok (.ldc 31, 2) := by decide +kernel
theorem d7_13 : decode prog_4_method_4_code 13 = .ok (.invokespecial 33, 3) := by decide +kernel
theorem d7_16 : decode prog_4_method_4_code 16 = .ok (.athrow, 1) := by decide +kernel
theorem d7_17 : decode prog_4_method_4_code 17 = .ok (.aload_n 0, 1) := by decide +kernel
theorem d7_18 : decode prog_4_method_4_code 18 = .ok (.getfield 7, 3) := by decide +kernel
theorem d7_21 : decode prog_4_method_4_code 21 = .ok (.aload_n 0, 1) := by decide +kernel
theorem d7_22 : decode prog_4_method_4_code 22 = .ok (.dup, 1) := by decide +kernel
theorem d7_23 : decode prog_4_method_4_code 23 = .ok (.getfield 13, 3) := by decide +kernel
theorem d7_26 : decode prog_4_method_4_code 26 = .ok (.iconst 1, 1) := by decide +kernel
theorem d7_27 : decode prog_4_method_4_code 27 = .ok (.isub, 1) := by decide +kernel
theorem d7_28 : decode prog_4_method_4_code 28 = .ok (.dup_x1, 1) := by decide +kernel
theorem d7_29 : decode prog_4_method_4_code 29 = .ok (.putfield 13, 3) := by decide +kernel
theorem d7_32 : decode prog_4_method_4_code 32 = .ok (.iaload, 1) := by decide +kernel
theorem d7_33 : decode prog_4_method_4_code 33 = .ok (.ireturn, 1) := by decide +kernel
theorem pn_7 : plainName "com/example/saturate/saturate/ints/IntList" = true := by first | (simp [plainName, overriddenIn]; done) | decide +kernel
theorem ef_7 (m : MethodId) (x0 : Addr) : entryFrame m #[(.ref x0)] 1 = mkF m 0 #[.val (.ref x0)] [] := by first | (simp [entryFrame, mkF, argsToLocals, Value.category]; done) | rfl
def Q7 (Z : State) (a1 : Addr) (sz : Nat) (h0 : Heap) (n0 : Nat) (v : Option Value) (h : Heap) (L : List Loc) : Prop := (∃ y, v = some (.int y)) ∧ Fr n0 L ∧ OwnS Z h n0 a1 (sz - 1)
set_option maxRecDepth 65536 in
set_option maxHeartbeats 40000000 in
theorem rm7 (l : Launch) (Z : State) (a0 : Array Value) (hw : ∀ d ∈ tables_1, d.before a0 Z = true) (ws : List Jvm.Cond) (a1 : Addr) (sz : Nat) (h0 : Heap) (n0 : Nat) (Z0 : n0 ≤ h0.size) (S1 : OwnS Z h0 n0 a1 sz) (hsz : 1 ≤ sz) :
    MetFree l (⟨"com/example/saturate/saturate/ints/IntList", "removeLast", "()I"⟩ : MethodName) (head1 (Jvm.Cond.code (⟨"com/example/saturate/saturate/ints/IntList", "removeLast", "()I"⟩ : MethodName) prog_4_method_4_code 1 (some .int) :: ws) ({ frames := 0, cells := 0, slots := 0, locals := 0 } : Room)) (fun a U => a = #[(.ref a1)] ∧ Z.Warmed39 U.vm ∧ U.heap = h0) (fun _ _ _ _ _ => True) (fun _ U o U' => ∃ v L, o = .returned v ∧ (Q7 Z a1 sz h0 n0) v U'.heap L ∧ FrameEnd U o U' L ({ frames := 0, cells := 0, slots := 0, locals := 0 } : Room).cells ({ frames := 0, cells := 0, slots := 0, locals := 0 } : Room).slots) := by
  refine MetFree.of_bodySF (plainFor_of_name pn_7) hisR ?_
  intro p e s m args below meth c s₁ Bd hml0 hP hK
  obtain ⟨rfl, hZ, hh⟩ := hP
  have hx := Bd.exec
  have hby := Bd.bytes
  have hml : c.maxLocals = 1 := hml0
  have hown : s.vm.findClass "com/example/saturate/saturate/ints/IntList" = some m.cls := (findClass_of_methodNamed Bd.named :)
  have hnm := (name_of_methodNamed Bd.named Bd.method).1
  have X0 : Stand p l e ({ frames := 0, cells := 0, slots := 0, locals := 0 } : Room) s m #[(.ref a1)] below meth c s₁ [] 0 0 := Stand.of_body Bd
  have e0 : s₁.heap = h0 := by rw [← hh, Bd.state]; rfl
  have N0 := Fr.nil n0
  obtain ⟨Zs, ga, E1, Fs, t, cap, f, Fi, V, gt, ne, hq1, hq2, hq3⟩ := S1
  show OwnG p.tables e below s ({ frames := 0, cells := 0, slots := 0, locals := 0 } : Room) (Q7 Z a1 sz h0 n0) (s₁.setTop (entryFrame m #[(.ref a1)] 1))
  refine OwnG.go (fun tz kz => castTop (ef_7 m a1) kz) ?_
  show OwnG _ _ _ _ _ _ (s₁.setTop (mkF m 0 #[.val (.ref a1)] []))
  refine OwnG.go (fun _ kz => XS.aloadN X0.here hx rfl (hb hby d7_0) rfl rfl kz) ?_
  show OwnG _ _ _ _ _ _ (s₁.setTop (mkF m 1 #[.val (.ref a1)] [(.ref a1)]))
  obtain ⟨T1, X1, e1, st1⟩ := getF X0 hx hZ hown (host := "") (Or.inl (hw _ (List.mem_of_getElem? (i := 17) rfl))) Via.refl e0 Fs (g := (mkF m 1 #[.val (.ref a1)] [(.ref a1)])) rfl rfl (hb hby d7_1)
  refine OwnG.go st1 ?_
  show OwnG _ _ _ _ _ _ (T1.setTop (mkF m 4 #[.val (.ref a1)] [(.int (Int32.ofNat sz))]))
  refine OwnG.go (fun _ kz => XS.ifYes X1.here hx rfl (pc0 := 4) (pc' := 17) rfl (hb hby d7_4) rfl ((if0 _ _).trans (feq (fun q => by have := (own_eq (i := sz) (j := 0) (by omega) (by omega)).mp q; omega)).2) (by decide) (by decide) kz) ?_
  show OwnG _ _ _ _ _ _ (T1.setTop (mkF m 17 #[.val (.ref a1)] []))
  refine OwnG.go (fun _ kz => XS.aloadN X1.here hx rfl (hb hby d7_17) rfl rfl kz) ?_
  show OwnG _ _ _ _ _ _ (T1.setTop (mkF m 18 #[.val (.ref a1)] [(.ref a1)]))
  obtain ⟨T2, X2, e2, st2⟩ := getF X1 hx hZ hown (host := "") (Or.inl (hw _ (List.mem_of_getElem? (i := 10) rfl))) Via.refl e1 Fi (g := (mkF m 18 #[.val (.ref a1)] [(.ref a1)])) rfl rfl (hb hby d7_18)
  refine OwnG.go st2 ?_
  show OwnG _ _ _ _ _ _ (T2.setTop (mkF m 21 #[.val (.ref a1)] [(.ref t)]))
  refine OwnG.go (fun _ kz => XS.aloadN X2.here hx rfl (hb hby d7_21) rfl rfl kz) ?_
  show OwnG _ _ _ _ _ _ (T2.setTop (mkF m 22 #[.val (.ref a1)] [(.ref a1), (.ref t)]))
  refine OwnG.go (fun _ kz => XS.dup X2.here hx rfl (hb hby d7_22) rfl rfl kz) ?_
  show OwnG _ _ _ _ _ _ (T2.setTop (mkF m 23 #[.val (.ref a1)] [(.ref a1), (.ref a1), (.ref t)]))
  obtain ⟨T3, X3, e3, st3⟩ := getF X2 hx hZ hown (host := "") (Or.inl (hw _ (List.mem_of_getElem? (i := 17) rfl))) Via.refl e2 Fs (g := (mkF m 23 #[.val (.ref a1)] [(.ref a1), (.ref a1), (.ref t)])) rfl rfl (hb hby d7_23)
  refine OwnG.go st3 ?_
  show OwnG _ _ _ _ _ _ (T3.setTop (mkF m 26 #[.val (.ref a1)] [(.int (Int32.ofNat sz)), (.ref a1), (.ref t)]))
  refine OwnG.go (fun _ kz => XS.iconst X3.here hx rfl (hb hby d7_26) kz) ?_
  show OwnG _ _ _ _ _ _ (T3.setTop (mkF m 27 #[.val (.ref a1)] [(.int (1 : Int32)), (.int (Int32.ofNat sz)), (.ref a1), (.ref t)]))
  refine OwnG.go (fun _ kz => XS.isub X3.here hx rfl (hb hby d7_27) rfl kz) ?_
  show OwnG _ _ _ _ _ _ (T3.setTop (mkF m 28 #[.val (.ref a1)] [(.int ((Int32.ofNat sz) - (1 : Int32))), (.ref a1), (.ref t)]))
  rw [own_sub1 hsz]
  show OwnG _ _ _ _ _ _ (T3.setTop (mkF m 28 #[.val (.ref a1)] [(.int (Int32.ofNat (sz - 1))), (.ref a1), (.ref t)]))
  refine OwnG.go (fun _ kz => XS.dupX1 X3.here hx rfl (hb hby d7_28) rfl rfl rfl kz) ?_
  show OwnG _ _ _ _ _ _ (T3.setTop (mkF m 29 #[.val (.ref a1)] [(.int (Int32.ofNat (sz - 1))), (.ref a1), (.int (Int32.ofNat (sz - 1))), (.ref t)]))
  obtain ⟨T4, h4, X4, e4, W4, st4⟩ := putF X3 hx hZ hown (host := "") (Or.inl (hw _ (List.mem_of_getElem? (i := 17) rfl))) Via.refl e3 Fs E1 (Or.inl (hw _ (List.mem_of_getElem? (i := 18) rfl))) (hw _ (List.mem_of_getElem? (i := 1) rfl)) (ty := .int) (by decide) rfl rfl (g := (mkF m 29 #[.val (.ref a1)] [(.int (Int32.ofNat (sz - 1))), (.ref a1), (.int (Int32.ofNat (sz - 1))), (.ref t)])) rfl rfl (hb hby d7_29)
  have Fw4 := Fs.same W4
  have N4 := Fr.snoc X4 N0 ga
  refine OwnG.go st4 ?_
  show OwnG _ _ _ _ _ _ (T4.setTop (mkF m 32 #[.val (.ref a1)] [(.int (Int32.ofNat (sz - 1))), (.ref t)]))
  have V8 := V.other W4 (Ne.symm ne)
  obtain ⟨cl, Ar, Sa, Ha⟩ := id V8
  refine OwnG.go (fun _ kz => X4.iaload hx (j := (Int32.ofNat (sz - 1))) (v := (.int (f (sz - 1)))) (by rw [e4]; exact Ar.1) (State.isArrayOf_alike hZ.alike Ar.2.1) Ar.2.2 (own_inb (j := sz - 1) Sa (by omega) (by omega)) (own_at (j := sz - 1) Sa Ha (by omega) (by omega)) (g := (mkF m 32 #[.val (.ref a1)] [(.int (Int32.ofNat (sz - 1))), (.ref t)])) rfl rfl (hb hby d7_32) _ kz) ?_
  show OwnG _ _ _ _ _ _ (T4.setTop (mkF m 33 #[.val (.ref a1)] [(.int (f (sz - 1)))]))
  obtain ⟨fs, hr, hrun, hended, hW, hsame⟩ := X4.leave (v := some (.int (f (sz - 1)))) (fun h => by rw [Bd.returns] at h; cases h)
  refine ⟨_, _, retI X4 hx Bd.returns (hb hby d7_33) hr, hrun, hended, _, _, rfl, ?_, ⟨_, rfl⟩, hW, hsame.mono (by decide) (by decide)⟩
  show (Q7 Z a1 sz h0 n0) _ T4.heap _
  rw [e4]
  exact ⟨⟨_, rfl⟩, N4, Nat.le_trans Z0 (Keep.of_wr W4).1, ga, E1.wr W4, Fw4, t, cap, f, Fi.other W4 (Or.inr (slot_ne (Or.inl (hw _ (List.mem_of_getElem? (i := 11) rfl))) (Or.inl (hw _ (List.mem_of_getElem? (i := 18) rfl))) (by decide) (t := (.array .int)) (t' := .int) (by decide) (by decide))), V8, gt, ne, by omega, hq2, hq3⟩
theorem d4_0 : decode prog_4_method_7_code 0 = .ok (.aload_n 0, 1) := by decide +kernel
theorem d4_1 : decode prog_4_method_7_code 1 = .ok (.getfield 13, 3) := by decide +kernel
theorem d4_4 : decode prog_4_method_7_code 4 = .ok (.ifCond .ne 7, 3) := by decide +kernel
theorem d4_7 : decode prog_4_method_7_code 7 = .ok (.iconst 1, 1) := by decide +kernel
theorem d4_8 : decode prog_4_method_7_code 8 = .ok (.goto 4, 3) := by decide +kernel
theorem d4_11 : decode prog_4_method_7_code 11 = .ok (.iconst 0, 1) := by decide +kernel
theorem d4_12 : decode prog_4_method_7_code 12 = .ok (.ireturn, 1) := by decide +kernel
theorem pn_4 : plainName "com/example/saturate/saturate/ints/IntList" = true := by first | (simp [plainName, overriddenIn]; done) | decide +kernel
theorem ef_4 (m : MethodId) (x0 : Addr) : entryFrame m #[(.ref x0)] 1 = mkF m 0 #[.val (.ref x0)] [] := by first | (simp [entryFrame, mkF, argsToLocals, Value.category]; done) | rfl
def Q4 (Z : State) (a1 : Addr) (sz : Nat) (h0 : Heap) (n0 : Nat) (v : Option Value) (h : Heap) (L : List Loc) : Prop := v = some (.int (own_em sz)) ∧ Fr n0 L ∧ OwnS Z h n0 a1 sz
set_option maxRecDepth 65536 in
set_option maxHeartbeats 40000000 in
theorem rm4 (l : Launch) (Z : State) (a0 : Array Value) (hw : ∀ d ∈ tables_1, d.before a0 Z = true) (ws : List Jvm.Cond) (a1 : Addr) (sz : Nat) (h0 : Heap) (n0 : Nat) (Z0 : n0 ≤ h0.size) (S1 : OwnS Z h0 n0 a1 sz) :
    MetFree l (⟨"com/example/saturate/saturate/ints/IntList", "isEmpty", "()Z"⟩ : MethodName) (head1 (Jvm.Cond.code (⟨"com/example/saturate/saturate/ints/IntList", "isEmpty", "()Z"⟩ : MethodName) prog_4_method_7_code 1 (some .boolean) :: ws) ({ frames := 0, cells := 0, slots := 0, locals := 0 } : Room)) (fun a U => a = #[(.ref a1)] ∧ Z.Warmed39 U.vm ∧ U.heap = h0) (fun _ _ _ _ _ => True) (fun _ U o U' => ∃ v L, o = .returned v ∧ (Q4 Z a1 sz h0 n0) v U'.heap L ∧ FrameEnd U o U' L ({ frames := 0, cells := 0, slots := 0, locals := 0 } : Room).cells ({ frames := 0, cells := 0, slots := 0, locals := 0 } : Room).slots) := by
  refine MetFree.of_bodySF (plainFor_of_name pn_4) hisR ?_
  intro p e s m args below meth c s₁ Bd hml0 hP hK
  obtain ⟨rfl, hZ, hh⟩ := hP
  have hx := Bd.exec
  have hby := Bd.bytes
  have hml : c.maxLocals = 1 := hml0
  have hown : s.vm.findClass "com/example/saturate/saturate/ints/IntList" = some m.cls := (findClass_of_methodNamed Bd.named :)
  have hnm := (name_of_methodNamed Bd.named Bd.method).1
  have X0 : Stand p l e ({ frames := 0, cells := 0, slots := 0, locals := 0 } : Room) s m #[(.ref a1)] below meth c s₁ [] 0 0 := Stand.of_body Bd
  have e0 : s₁.heap = h0 := by rw [← hh, Bd.state]; rfl
  have N0 := Fr.nil n0
  obtain ⟨Zs, ga, E1, Fs, t, cap, f, Fi, V, gt, ne, hq1, hq2, hq3⟩ := id S1
  show OwnG p.tables e below s ({ frames := 0, cells := 0, slots := 0, locals := 0 } : Room) (Q4 Z a1 sz h0 n0) (s₁.setTop (entryFrame m #[(.ref a1)] 1))
  refine OwnG.go (fun tz kz => castTop (ef_4 m a1) kz) ?_
  show OwnG _ _ _ _ _ _ (s₁.setTop (mkF m 0 #[.val (.ref a1)] []))
  refine OwnG.go (fun _ kz => XS.aloadN X0.here hx rfl (hb hby d4_0) rfl rfl kz) ?_
  show OwnG _ _ _ _ _ _ (s₁.setTop (mkF m 1 #[.val (.ref a1)] [(.ref a1)]))
  obtain ⟨T1, X1, e1, st1⟩ := getF X0 hx hZ hown (host := "") (Or.inl (hw _ (List.mem_of_getElem? (i := 17) rfl))) Via.refl e0 Fs (g := (mkF m 1 #[.val (.ref a1)] [(.ref a1)])) rfl rfl (hb hby d4_1)
  refine OwnG.go st1 ?_
  show OwnG _ _ _ _ _ _ (T1.setTop (mkF m 4 #[.val (.ref a1)] [(.int (Int32.ofNat sz))]))
  by_cases c1 : (Int32.ofNat sz) = (0 : Int32)
  · have _u := ()
    refine OwnG.go (fun _ kz => XS.ifNo X1.here hx rfl (hb hby d4_4) rfl ((if0 _ _).trans (teq c1).2) kz) ?_
    show OwnG _ _ _ _ _ _ (T1.setTop (mkF m 7 #[.val (.ref a1)] []))
    have hc : sz = 0 := (own_eq (i := sz) (j := 0) (by omega) (by omega)).mp c1
    refine OwnG.go (fun _ kz => XS.iconst X1.here hx rfl (hb hby d4_7) kz) ?_
    show OwnG _ _ _ _ _ _ (T1.setTop (mkF m 8 #[.val (.ref a1)] [(.int (1 : Int32))]))
    refine OwnG.go (fun _ kz => XS.goto X1.here hx rfl (pc0 := 8) (pc' := 12) rfl (hb hby d4_8) (by decide) (by decide) kz) ?_
    show OwnG _ _ _ _ _ _ (T1.setTop (mkF m 12 #[.val (.ref a1)] [(.int (1 : Int32))]))
    obtain ⟨fs, hr, hrun, hended, hW, hsame⟩ := X1.leave (v := some (.int (1 : Int32))) (fun h => by rw [Bd.returns] at h; cases h)
    refine ⟨_, _, retN X1 hx (t := .boolean) Bd.returns (by simp) (hb hby d4_12) hr, hrun, hended, _, _, rfl, ?_, ⟨_, rfl⟩, hW, hsame.mono (by decide) (by decide)⟩
    show (Q4 Z a1 sz h0 n0) _ T1.heap _
    rw [e1]
    exact ⟨by rw [own_em, if_pos hc], N0, S1⟩
  · have _u := ()
    refine OwnG.go (fun _ kz => XS.ifYes X1.here hx rfl (pc0 := 4) (pc' := 11) rfl (hb hby d4_4) rfl ((if0 _ _).trans (feq c1).2) (by decide) (by decide) kz) ?_
    show OwnG _ _ _ _ _ _ (T1.setTop (mkF m 11 #[.val (.ref a1)] []))
    have hc : ¬ sz = 0 := fun q => c1 (by rw [q]; rfl)
    refine OwnG.go (fun _ kz => XS.iconst X1.here hx rfl (hb hby d4_11) kz) ?_
    show OwnG _ _ _ _ _ _ (T1.setTop (mkF m 12 #[.val (.ref a1)] [(.int (0 : Int32))]))
    obtain ⟨fs, hr, hrun, hended, hW, hsame⟩ := X1.leave (v := some (.int (0 : Int32))) (fun h => by rw [Bd.returns] at h; cases h)
    refine ⟨_, _, retN X1 hx (t := .boolean) Bd.returns (by simp) (hb hby d4_12) hr, hrun, hended, _, _, rfl, ?_, ⟨_, rfl⟩, hW, hsame.mono (by decide) (by decide)⟩
    show (Q4 Z a1 sz h0 n0) _ T1.heap _
    rw [e1]
    exact ⟨by rw [own_em, if_neg hc], N0, S1⟩
theorem d8_0 : decode prog_4_method_5_code 0 = .ok (.aload_n 0, 1) := by decide +kernel
theorem d8_1 : decode prog_4_method_5_code 1 = .ok (.iconst 0, 1) := by decide +kernel
theorem d8_2 : decode prog_4_method_5_code 2 = .ok (.putfield 13, 3) := by decide +kernel
theorem d8_5 : decode prog_4_method_5_code 5 = .ok (.return_, 1) := by decide +kernel
theorem pn_8 : plainName "com/example/saturate/saturate/ints/IntList" = true := by first | (simp [plainName, overriddenIn]; done) | decide +kernel
theorem ef_8 (m : MethodId) (x0 : Addr) : entryFrame m #[(.ref x0)] 1 = mkF m 0 #[.val (.ref x0)] [] := by first | (simp [entryFrame, mkF, argsToLocals, Value.category]; done) | rfl
def Q8 (Z : State) (a1 : Addr) (sz : Nat) (h0 : Heap) (n0 : Nat) (v : Option Value) (h : Heap) (L : List Loc) : Prop := v = none ∧ Fr n0 L ∧ OwnS Z h n0 a1 0
set_option maxRecDepth 65536 in
set_option maxHeartbeats 40000000 in
theorem rm8 (l : Launch) (Z : State) (a0 : Array Value) (hw : ∀ d ∈ tables_1, d.before a0 Z = true) (ws : List Jvm.Cond) (a1 : Addr) (sz : Nat) (h0 : Heap) (n0 : Nat) (Z0 : n0 ≤ h0.size) (S1 : OwnS Z h0 n0 a1 sz) :
    MetFree l (⟨"com/example/saturate/saturate/ints/IntList", "clear", "()V"⟩ : MethodName) (head1 (Jvm.Cond.code (⟨"com/example/saturate/saturate/ints/IntList", "clear", "()V"⟩ : MethodName) prog_4_method_5_code 1 none :: ws) ({ frames := 0, cells := 0, slots := 0, locals := 0 } : Room)) (fun a U => a = #[(.ref a1)] ∧ Z.Warmed39 U.vm ∧ U.heap = h0) (fun _ _ _ _ _ => True) (fun _ U o U' => ∃ v L, o = .returned v ∧ (Q8 Z a1 sz h0 n0) v U'.heap L ∧ FrameEnd U o U' L ({ frames := 0, cells := 0, slots := 0, locals := 0 } : Room).cells ({ frames := 0, cells := 0, slots := 0, locals := 0 } : Room).slots) := by
  refine MetFree.of_bodySF (plainFor_of_name pn_8) hisR ?_
  intro p e s m args below meth c s₁ Bd hml0 hP hK
  obtain ⟨rfl, hZ, hh⟩ := hP
  have hx := Bd.exec
  have hby := Bd.bytes
  have hml : c.maxLocals = 1 := hml0
  have hown : s.vm.findClass "com/example/saturate/saturate/ints/IntList" = some m.cls := (findClass_of_methodNamed Bd.named :)
  have hnm := (name_of_methodNamed Bd.named Bd.method).1
  have X0 : Stand p l e ({ frames := 0, cells := 0, slots := 0, locals := 0 } : Room) s m #[(.ref a1)] below meth c s₁ [] 0 0 := Stand.of_body Bd
  have e0 : s₁.heap = h0 := by rw [← hh, Bd.state]; rfl
  have N0 := Fr.nil n0
  obtain ⟨Zs, ga, E1, Fs, t, cap, f, Fi, V, gt, ne, hq1, hq2, hq3⟩ := S1
  show OwnG p.tables e below s ({ frames := 0, cells := 0, slots := 0, locals := 0 } : Room) (Q8 Z a1 sz h0 n0) (s₁.setTop (entryFrame m #[(.ref a1)] 1))
  refine OwnG.go (fun tz kz => castTop (ef_8 m a1) kz) ?_
  show OwnG _ _ _ _ _ _ (s₁.setTop (mkF m 0 #[.val (.ref a1)] []))
  refine OwnG.go (fun _ kz => XS.aloadN X0.here hx rfl (hb hby d8_0) rfl rfl kz) ?_
  show OwnG _ _ _ _ _ _ (s₁.setTop (mkF m 1 #[.val (.ref a1)] [(.ref a1)]))
  refine OwnG.go (fun _ kz => XS.iconst X0.here hx rfl (hb hby d8_1) kz) ?_
  show OwnG _ _ _ _ _ _ (s₁.setTop (mkF m 2 #[.val (.ref a1)] [(.int (0 : Int32)), (.ref a1)]))
  obtain ⟨T1, h1, X1, e1, W1, st1⟩ := putF X0 hx hZ hown (host := "") (Or.inl (hw _ (List.mem_of_getElem? (i := 17) rfl))) Via.refl e0 Fs E1 (Or.inl (hw _ (List.mem_of_getElem? (i := 18) rfl))) (hw _ (List.mem_of_getElem? (i := 1) rfl)) (ty := .int) (by decide) rfl rfl (g := (mkF m 2 #[.val (.ref a1)] [(.int (0 : Int32)), (.ref a1)])) rfl rfl (hb hby d8_2)
  have Fw1 := Fs.same W1
  have N1 := Fr.snoc X1 N0 ga
  refine OwnG.go st1 ?_
  show OwnG _ _ _ _ _ _ (T1.setTop (mkF m 5 #[.val (.ref a1)] []))
  obtain ⟨fs, hr, hrun, hended, hW, hsame⟩ := X1.leave (v := none) (fun _ => rfl)
  refine ⟨_, _, X1.returnOut hx Bd.returns (hb hby d8_5) hr, hrun, hended, _, _, rfl, ?_, ⟨_, rfl⟩, hW, hsame.mono (by decide) (by decide)⟩
  show (Q8 Z a1 sz h0 n0) _ T1.heap _
  rw [e1]
  exact ⟨rfl, N1, Nat.le_trans Z0 (Keep.of_wr W1).1, ga, E1.wr W1, Fw1, t, cap, f, Fi.other W1 (Or.inr (slot_ne (Or.inl (hw _ (List.mem_of_getElem? (i := 11) rfl))) (Or.inl (hw _ (List.mem_of_getElem? (i := 18) rfl))) (by decide) (t := (.array .int)) (t' := .int) (by decide) (by decide))), V.other W1 (Ne.symm ne), gt, ne, by omega, hq2, hq3⟩
theorem pn_0 : plainName "com/example/saturate/saturate/ints/IntListIsEmptyPinLaw" = true := by first | (simp [plainName, overriddenIn]; done) | decide +kernel
theorem ef_0 (m : MethodId) (x0 : Int32) (x1 : Int32) (x2 : Int32) : entryFrame m #[(.int x0), (.int x1), (.int x2)] maxLocals = mkF m 0 #[.val (.int x0), .val (.int x1), .val (.int x2), .unset, .unset, .unset, .unset, .unset, .unset, .unset] [] := by first | (simp [entryFrame, mkF, argsToLocals, Value.category, maxLocals]; done) | rfl
def Q0 (Z : State) (p1 p2 p3 : Int32) (h0 : Heap) (n0 : Nat) (v : Option Value) (h : Heap) (L : List Loc) : Prop := v = some (.int (1 : Int32)) ∧ Fr n0 L
set_option maxRecDepth 65536 in
set_option maxHeartbeats 40000000 in
theorem rm0 (l : Launch) (Z : State) (a0 : Array Value) (hw : ∀ d ∈ tables_1, d.before a0 Z = true) (ws : List Jvm.Cond) (p1 p2 p3 : Int32) (h0 : Heap) (n0 : Nat) (Z0 : n0 ≤ h0.size)  :
    MetFree l x (head1 (Jvm.Cond.code x code maxLocals ret :: ws) room_1) (fun a U => a = #[(.int p1), (.int p2), (.int p3)] ∧ Z.Warmed39 U.vm ∧ U.heap = h0) (fun _ _ _ _ _ => True) (fun _ U o U' => ∃ v L, o = .returned v ∧ (Q0 Z p1 p2 p3 h0 n0) v U'.heap L ∧ FrameEnd U o U' L room_1.cells room_1.slots) := by
  refine MetFree.of_bodySF (plainFor_of_name pn_0) hisR ?_
  intro p e s m args below meth c s₁ Bd hml0 hP hK
  obtain ⟨rfl, hZ, hh⟩ := hP
  have hx := Bd.exec
  have hby := Bd.bytes
  have hml : c.maxLocals = 10 := hml0
  have hown : s.vm.findClass "com/example/saturate/saturate/ints/IntListIsEmptyPinLaw" = some m.cls := (findClass_of_methodNamed Bd.named :)
  have hnm := (name_of_methodNamed Bd.named Bd.method).1
  have X0 : Stand p l e room_1 s m #[(.int p1), (.int p2), (.int p3)] below meth c s₁ [] 0 0 := Stand.of_body Bd
  have e0 : s₁.heap = h0 := by rw [← hh, Bd.state]; rfl
  have N0 := Fr.nil n0
  show OwnG p.tables e below s room_1 (Q0 Z p1 p2 p3 h0 n0) (s₁.setTop (entryFrame m #[(.int p1), (.int p2), (.int p3)] maxLocals))
  refine OwnG.go (fun tz kz => castTop (ef_0 m p1 p2 p3) kz) ?_
  show OwnG _ _ _ _ _ _ (s₁.setTop (mkF m 0 #[.val (.int p1), .val (.int p2), .val (.int p3), .unset, .unset, .unset, .unset, .unset, .unset, .unset] []))
  obtain ⟨T1, h1, X1, e1, E1, A1, D1, -, st1⟩ := newO X0 hx hZ hown (hw _ (List.mem_of_getElem? (i := 0) rfl)) (hw _ (List.mem_of_getElem? (i := 1) rfl)) (hw _ (List.mem_of_getElem? (i := 2) rfl)) e0 (g := (mkF m 0 #[.val (.int p1), .val (.int p2), .val (.int p3), .unset, .unset, .unset, .unset, .unset, .unset, .unset] [])) rfl (hb hby at_0) (by decide) (by decide)
  obtain ⟨b1, g1⟩ : ∃ z, z = h0.size := ⟨_, rfl⟩
  rw [← g1] at A1 D1 st1
  refine OwnG.go st1 ?_
  show OwnG _ _ _ _ _ _ (T1.setTop (mkF m 3 #[.val (.int p1), .val (.int p2), .val (.int p3), .unset, .unset, .unset, .unset, .unset, .unset, .unset] [(.ref b1)]))
  have F_size_b1 : Fld Z h1 b1 "com/example/saturate/saturate/ints/IntList" "size" "I" (.int (0 : Int32)) := D1 (Or.inl (hw _ (List.mem_of_getElem? (i := 18) rfl))) (ty := .int) (by decide)
  have F_items_b1 : Fld Z h1 b1 "com/example/saturate/saturate/ints/IntList" "items" "[I" .null := D1 (Or.inl (hw _ (List.mem_of_getElem? (i := 11) rfl))) (ty := (.array .int)) (by decide)
  have go : n0 ≤ b1 := Nat.le_trans Z0 (Nat.le_of_eq g1.symm)
  have Z1 : n0 ≤ h1.size := Nat.le_trans Z0 E1.1
  refine OwnG.go (fun _ kz => XS.dup X1.here hx rfl (hb hby at_3) rfl rfl kz) ?_
  show OwnG _ _ _ _ _ _ (T1.setTop (mkF m 4 #[.val (.int p1), .val (.int p2), .val (.int p3), .unset, .unset, .unset, .unset, .unset, .unset, .unset] [(.ref b1), (.ref b1)]))
  obtain ⟨_, _, ⟨T2, L2, k2, n2⟩, -, X2, ⟨Lc2, hQ2, l2, y2, z2⟩, st2⟩ := X1.specialBack hx (y := (⟨"com/example/saturate/saturate/ints/IntList", "<init>", "()V"⟩ : MethodName)) rfl hown (mvT hZ (hw _ (List.mem_of_getElem? (i := 3) rfl))) (mvT hZ (hw _ (List.mem_of_getElem? (i := 4) rfl))) (mvT hZ (hw _ (List.mem_of_getElem? (i := 5) rfl))) (by decide) (backOf (W := 1) (rm1 l Z a0 hw [] b1 h1 n0 Z1 A1 F_size_b1 F_items_b1 go) hZ (hw _ (List.mem_of_getElem? (i := 5) rfl)) (hw _ (List.mem_of_getElem? (i := 2) rfl)) (by decide) (by decide)) (g := (mkF m 4 #[.val (.int p1), .val (.int p2), .val (.int p3), .unset, .unset, .unset, .unset, .unset, .unset, .unset] [(.ref b1), (.ref b1)])) rfl (by rw [hml]; rfl) (Steps.refl _) (a := b1) (argsL := []) (rest := [(.ref b1)]) (lenOf pd_1 rfl) rfl (by show 2 * 0 + _ ≤ _; exact Nat.le_of_eq rfl) (hb hby at_4) (fun _ _ => ⟨rfl, e1, (by decide : 1 + 1 ≤ _), (by decide : 2 + 4 ≤ _)⟩)
  dsimp only [Pt.U, Pt.locs, Pt.cells, Pt.slots] at X2 l2 y2 z2 st2 hQ2
  subst l2 y2 z2
  obtain ⟨rfl, N2q, S2⟩ := hQ2
  have N2 := Fr.app N0 N2q
  refine OwnG.go (fun tz kz => st2.trans kz) ?_
  show OwnG _ _ _ _ _ _ (T2.setTop (mkF m 7 #[.val (.int p1), .val (.int p2), .val (.int p3), .unset, .unset, .unset, .unset, .unset, .unset, .unset] [(.ref b1)]))
  have Sz := S2
  refine OwnG.go (fun _ kz => XS.astoreN X2.here hx rfl (hb hby at_7) rfl rfl (l' := #[.val (.int p1), .val (.int p2), .val (.int p3), .val (.ref b1), .unset, .unset, .unset, .unset, .unset, .unset]) rfl kz) ?_
  show OwnG _ _ _ _ _ _ (T2.setTop (mkF m 8 #[.val (.int p1), .val (.int p2), .val (.int p3), .val (.ref b1), .unset, .unset, .unset, .unset, .unset, .unset] []))
  refine OwnG.go (fun _ kz => XS.iloadN X2.here hx rfl (hb hby at_8) rfl kz) ?_
  show OwnG _ _ _ _ _ _ (T2.setTop (mkF m 9 #[.val (.int p1), .val (.int p2), .val (.int p3), .val (.ref b1), .unset, .unset, .unset, .unset, .unset, .unset] [(.int p3)]))
  refine OwnG.go (fun _ kz => XS.bipush X2.here hx rfl (hb hby at_9) kz) ?_
  show OwnG _ _ _ _ _ _ (T2.setTop (mkF m 11 #[.val (.int p1), .val (.int p2), .val (.int p3), .val (.ref b1), .unset, .unset, .unset, .unset, .unset, .unset] [(.int (7 : Int32)), (.int p3)]))
  refine OwnG.go (fun _ kz => XS.iand X2.here hx rfl (hb hby at_11) rfl kz) ?_
  show OwnG _ _ _ _ _ _ (T2.setTop (mkF m 12 #[.val (.int p1), .val (.int p2), .val (.int p3), .val (.ref b1), .unset, .unset, .unset, .unset, .unset, .unset] [(.int (p3 &&& (7 : Int32)))]))
  obtain ⟨k0, hk0, ek0⟩ := own_and (m := 7) p3 (by decide)
  rw [show (7 : Int32) = Int32.ofNat 7 from rfl, ek0]
  show OwnG _ _ _ _ _ _ (T2.setTop (mkF m 12 #[.val (.int p1), .val (.int p2), .val (.int p3), .val (.ref b1), .unset, .unset, .unset, .unset, .unset, .unset] [(.int (Int32.ofNat k0))]))
  refine OwnG.go (fun _ kz => XS.istore X2.here hx rfl (hb hby at_12) rfl (l' := #[.val (.int p1), .val (.int p2), .val (.int p3), .val (.ref b1), .val (.int (Int32.ofNat k0)), .unset, .unset, .unset, .unset, .unset]) rfl kz) ?_
  show OwnG _ _ _ _ _ _ (T2.setTop (mkF m 14 #[.val (.int p1), .val (.int p2), .val (.int p3), .val (.ref b1), .val (.int (Int32.ofNat k0)), .unset, .unset, .unset, .unset, .unset] []))
  refine OwnG.go (fun _ kz => XS.iload X2.here hx rfl (hb hby at_14) rfl kz) ?_
  show OwnG _ _ _ _ _ _ (T2.setTop (mkF m 16 #[.val (.int p1), .val (.int p2), .val (.int p3), .val (.ref b1), .val (.int (Int32.ofNat k0)), .unset, .unset, .unset, .unset, .unset] [(.int (Int32.ofNat k0))]))
  refine OwnG.go (fun _ kz => XS.iconst X2.here hx rfl (hb hby at_16) kz) ?_
  show OwnG _ _ _ _ _ _ (T2.setTop (mkF m 17 #[.val (.int p1), .val (.int p2), .val (.int p3), .val (.ref b1), .val (.int (Int32.ofNat k0)), .unset, .unset, .unset, .unset, .unset] [(.int (5 : Int32)), (.int (Int32.ofNat k0))]))
  have B23 : ∀ k : Nat, k ≤ 5 → OwnG p.tables e below s room_1 (Q0 Z p1 p2 p3 h0 n0) (T2.setTop (mkF m 23 #[.val (.int p1), .val (.int p2), .val (.int p3), .val (.ref b1), .val (.int (Int32.ofNat k)), .unset, .unset, .unset, .unset, .unset] [])) := by
    intro k hk
    have B80 : ∀ (T_B80 : State) (Lx : List Loc), Stand p l e room_1 s m #[(.int p1), (.int p2), (.int p3)] below meth c T_B80 Lx 7 46 → OwnS Z T_B80.heap n0 b1 k → Fr n0 Lx → OwnG p.tables e below s room_1 (Q0 Z p1 p2 p3 h0 n0) (T_B80.setTop (mkF m 80 #[.val (.int p1), .val (.int p2), .val (.int p3), .val (.ref b1), .val (.int (Int32.ofNat k)), .unset, .unset, .unset, .unset, .unset] [])) := by
      intro T_B80 Lx X_B80 S_B80 N_B80
      show OwnG _ _ _ _ _ _ (T_B80.setTop (mkF m 80 #[.val (.int p1), .val (.int p2), .val (.int p3), .val (.ref b1), .val (.int (Int32.ofNat k)), .unset, .unset, .unset, .unset, .unset] []))
      refine OwnG.go (fun _ kz => XS.iloadN X_B80.here hx rfl (hb hby at_80) rfl kz) ?_
      show OwnG _ _ _ _ _ _ (T_B80.setTop (mkF m 81 #[.val (.int p1), .val (.int p2), .val (.int p3), .val (.ref b1), .val (.int (Int32.ofNat k)), .unset, .unset, .unset, .unset, .unset] [(.int p3)]))
      refine OwnG.go (fun _ kz => XS.iconst X_B80.here hx rfl (hb hby at_81) kz) ?_
      show OwnG _ _ _ _ _ _ (T_B80.setTop (mkF m 82 #[.val (.int p1), .val (.int p2), .val (.int p3), .val (.ref b1), .val (.int (Int32.ofNat k)), .unset, .unset, .unset, .unset, .unset] [(.int (3 : Int32)), (.int p3)]))
      refine OwnG.go (fun _ kz => XS.iushr X_B80.here hx rfl (hb hby at_82) rfl kz) ?_
      show OwnG _ _ _ _ _ _ (T_B80.setTop (mkF m 83 #[.val (.int p1), .val (.int p2), .val (.int p3), .val (.ref b1), .val (.int (Int32.ofNat k)), .unset, .unset, .unset, .unset, .unset] [(.int ((p3.toUInt32 >>> ((3 : Int32) &&& 31).toUInt32).toInt32))]))
      refine OwnG.go (fun _ kz => XS.iconst X_B80.here hx rfl (hb hby at_83) kz) ?_
      show OwnG _ _ _ _ _ _ (T_B80.setTop (mkF m 84 #[.val (.int p1), .val (.int p2), .val (.int p3), .val (.ref b1), .val (.int (Int32.ofNat k)), .unset, .unset, .unset, .unset, .unset] [(.int (3 : Int32)), (.int ((p3.toUInt32 >>> ((3 : Int32) &&& 31).toUInt32).toInt32))]))
      refine OwnG.go (fun _ kz => XS.iand X_B80.here hx rfl (hb hby at_84) rfl kz) ?_
      show OwnG _ _ _ _ _ _ (T_B80.setTop (mkF m 85 #[.val (.int p1), .val (.int p2), .val (.int p3), .val (.ref b1), .val (.int (Int32.ofNat k)), .unset, .unset, .unset, .unset, .unset] [(.int (((p3.toUInt32 >>> ((3 : Int32) &&& 31).toUInt32).toInt32) &&& (3 : Int32)))]))
      obtain ⟨r0, hr0, er0⟩ := own_and (m := 3) ((p3.toUInt32 >>> ((3 : Int32) &&& 31).toUInt32).toInt32) (by decide)
      rw [show ((p3.toUInt32 >>> ((3 : Int32) &&& 31).toUInt32).toInt32 &&& (3 : Int32)) = Int32.ofNat r0 from er0]
      show OwnG _ _ _ _ _ _ (T_B80.setTop (mkF m 85 #[.val (.int p1), .val (.int p2), .val (.int p3), .val (.ref b1), .val (.int (Int32.ofNat k)), .unset, .unset, .unset, .unset, .unset] [(.int (Int32.ofNat r0))]))
      refine OwnG.go (fun _ kz => XS.istore X_B80.here hx rfl (hb hby at_85) rfl (l' := #[.val (.int p1), .val (.int p2), .val (.int p3), .val (.ref b1), .val (.int (Int32.ofNat k)), .val (.int (Int32.ofNat r0)), .unset, .unset, .unset, .unset]) rfl kz) ?_
      show OwnG _ _ _ _ _ _ (T_B80.setTop (mkF m 87 #[.val (.int p1), .val (.int p2), .val (.int p3), .val (.ref b1), .val (.int (Int32.ofNat k)), .val (.int (Int32.ofNat r0)), .unset, .unset, .unset, .unset] []))
      refine OwnG.go (fun _ kz => XS.iload X_B80.here hx rfl (hb hby at_87) rfl kz) ?_
      show OwnG _ _ _ _ _ _ (T_B80.setTop (mkF m 89 #[.val (.int p1), .val (.int p2), .val (.int p3), .val (.ref b1), .val (.int (Int32.ofNat k)), .val (.int (Int32.ofNat r0)), .unset, .unset, .unset, .unset] [(.int (Int32.ofNat r0))]))
      refine OwnG.go (fun _ kz => XS.iconst X_B80.here hx rfl (hb hby at_89) kz) ?_
      show OwnG _ _ _ _ _ _ (T_B80.setTop (mkF m 90 #[.val (.int p1), .val (.int p2), .val (.int p3), .val (.ref b1), .val (.int (Int32.ofNat k)), .val (.int (Int32.ofNat r0)), .unset, .unset, .unset, .unset] [(.int (2 : Int32)), (.int (Int32.ofNat r0))]))
      have B107 : ∀ r : Nat, r ≤ 2 → r ≤ k → OwnG p.tables e below s room_1 (Q0 Z p1 p2 p3 h0 n0) (T_B80.setTop (mkF m 107 #[.val (.int p1), .val (.int p2), .val (.int p3), .val (.ref b1), .val (.int (Int32.ofNat k)), .val (.int (Int32.ofNat r)), .unset, .unset, .unset, .unset] [])) := by
        intro r hr hrk
        have B129 : ∀ (T_B129 : State) (Lx : List Loc), Stand p l e room_1 s m #[(.int p1), (.int p2), (.int p3)] below meth c T_B129 Lx 7 46 → OwnS Z T_B129.heap n0 b1 (k - r) → Fr n0 Lx → OwnG p.tables e below s room_1 (Q0 Z p1 p2 p3 h0 n0) (T_B129.setTop (mkF m 129 #[.val (.int p1), .val (.int p2), .val (.int p3), .val (.ref b1), .val (.int (Int32.ofNat k)), .val (.int (Int32.ofNat r)), .unset, .unset, .unset, .unset] [])) := by
          intro T_B129 Lx X_B129 S_B129 N_B129
          show OwnG _ _ _ _ _ _ (T_B129.setTop (mkF m 129 #[.val (.int p1), .val (.int p2), .val (.int p3), .val (.ref b1), .val (.int (Int32.ofNat k)), .val (.int (Int32.ofNat r)), .unset, .unset, .unset, .unset] []))
          refine OwnG.go (fun _ kz => XS.iload X_B129.here hx rfl (hb hby at_129) rfl kz) ?_
          show OwnG _ _ _ _ _ _ (T_B129.setTop (mkF m 131 #[.val (.int p1), .val (.int p2), .val (.int p3), .val (.ref b1), .val (.int (Int32.ofNat k)), .val (.int (Int32.ofNat r)), .unset, .unset, .unset, .unset] [(.int (Int32.ofNat k))]))
          refine OwnG.go (fun _ kz => XS.iload X_B129.here hx rfl (hb hby at_131) rfl kz) ?_
          show OwnG _ _ _ _ _ _ (T_B129.setTop (mkF m 133 #[.val (.int p1), .val (.int p2), .val (.int p3), .val (.ref b1), .val (.int (Int32.ofNat k)), .val (.int (Int32.ofNat r)), .unset, .unset, .unset, .unset] [(.int (Int32.ofNat r)), (.int (Int32.ofNat k))]))
          refine OwnG.go (fun _ kz => XS.isub X_B129.here hx rfl (hb hby at_133) rfl kz) ?_
          show OwnG _ _ _ _ _ _ (T_B129.setTop (mkF m 134 #[.val (.int p1), .val (.int p2), .val (.int p3), .val (.ref b1), .val (.int (Int32.ofNat k)), .val (.int (Int32.ofNat r)), .unset, .unset, .unset, .unset] [(.int ((Int32.ofNat k) - (Int32.ofNat r)))]))
          rw [own_subn hrk]
          show OwnG _ _ _ _ _ _ (T_B129.setTop (mkF m 134 #[.val (.int p1), .val (.int p2), .val (.int p3), .val (.ref b1), .val (.int (Int32.ofNat k)), .val (.int (Int32.ofNat r)), .unset, .unset, .unset, .unset] [(.int (Int32.ofNat (k - r)))]))
          refine OwnG.go (fun _ kz => XS.istore X_B129.here hx rfl (hb hby at_134) rfl (l' := #[.val (.int p1), .val (.int p2), .val (.int p3), .val (.ref b1), .val (.int (Int32.ofNat k)), .val (.int (Int32.ofNat r)), .val (.int (Int32.ofNat (k - r))), .unset, .unset, .unset]) rfl kz) ?_
          show OwnG _ _ _ _ _ _ (T_B129.setTop (mkF m 136 #[.val (.int p1), .val (.int p2), .val (.int p3), .val (.ref b1), .val (.int (Int32.ofNat k)), .val (.int (Int32.ofNat r)), .val (.int (Int32.ofNat (k - r))), .unset, .unset, .unset] []))
          refine OwnG.go (fun _ kz => XS.aloadN X_B129.here hx rfl (hb hby at_136) rfl rfl kz) ?_
          show OwnG _ _ _ _ _ _ (T_B129.setTop (mkF m 137 #[.val (.int p1), .val (.int p2), .val (.int p3), .val (.ref b1), .val (.int (Int32.ofNat k)), .val (.int (Int32.ofNat r)), .val (.int (Int32.ofNat (k - r))), .unset, .unset, .unset] [(.ref b1)]))
          obtain ⟨cq3, kq3, q3a, q3b, q3c⟩ := isOf hZ (rfl : T_B129.heap = T_B129.heap) S_B129.2.2.1
          obtain ⟨_, _, ⟨T3, L3, k3, n3⟩, -, X3, ⟨Lc3, hQ3, l3, y3, z3⟩, st3⟩ := X_B129.virtualBack hx (y := (⟨"com/example/saturate/saturate/ints/IntList", "isEmpty", "()Z"⟩ : MethodName)) (z := (⟨"com/example/saturate/saturate/ints/IntList", "isEmpty", "()Z"⟩ : MethodName)) hown (mvT hZ (hw _ (List.mem_of_getElem? (i := 19) rfl))) (mvT hZ (hw _ (List.mem_of_getElem? (i := 20) rfl))) (notFace_of_selects (args := #[]) (mvT hZ (hw _ (List.mem_of_getElem? (i := 22) rfl)))) (mvT hZ (hw _ (List.mem_of_getElem? (i := 22) rfl))) (mvT hZ (hw _ (List.mem_of_getElem? (i := 21) rfl))) (by decide) (backOf (W := 0) (rm4 l Z a0 hw [] b1 (k - r) T_B129.heap n0 S_B129.1 S_B129) hZ (hw _ (List.mem_of_getElem? (i := 23) rfl)) (hw _ (List.mem_of_getElem? (i := 2) rfl)) (by decide) (by decide)) q3a q3c (g := (mkF m 137 #[.val (.int p1), .val (.int p2), .val (.int p3), .val (.ref b1), .val (.int (Int32.ofNat k)), .val (.int (Int32.ofNat r)), .val (.int (Int32.ofNat (k - r))), .unset, .unset, .unset] [(.ref b1)])) rfl (by rw [hml]; rfl) (Steps.refl _) (argsL := []) (rest := []) (lenOf pd_4 rfl) rfl (by show 2 * 0 + _ ≤ _; exact Nat.le_of_eq rfl) (hb hby at_137) (fun _ _ => ⟨rfl, (rfl : T_B129.heap = T_B129.heap), (by decide : 7 + 0 ≤ _), (by decide : 46 + 0 ≤ _)⟩)
          dsimp only [Pt.U, Pt.locs, Pt.cells, Pt.slots] at X3 l3 y3 z3 st3 hQ3
          subst l3 y3 z3
          obtain ⟨rfl, N3q, S3⟩ := hQ3
          have N3 := Fr.app N_B129 N3q
          refine OwnG.go (fun tz kz => st3.trans kz) ?_
          show OwnG _ _ _ _ _ _ (T3.setTop (mkF m 140 #[.val (.int p1), .val (.int p2), .val (.int p3), .val (.ref b1), .val (.int (Int32.ofNat k)), .val (.int (Int32.ofNat r)), .val (.int (Int32.ofNat (k - r))), .unset, .unset, .unset] [(.int (own_em (k - r)))]))
          refine OwnG.go (fun _ kz => XS.istore X3.here hx rfl (hb hby at_140) rfl (l' := #[.val (.int p1), .val (.int p2), .val (.int p3), .val (.ref b1), .val (.int (Int32.ofNat k)), .val (.int (Int32.ofNat r)), .val (.int (Int32.ofNat (k - r))), .val (.int (own_em (k - r))), .unset, .unset]) rfl kz) ?_
          show OwnG _ _ _ _ _ _ (T3.setTop (mkF m 142 #[.val (.int p1), .val (.int p2), .val (.int p3), .val (.ref b1), .val (.int (Int32.ofNat k)), .val (.int (Int32.ofNat r)), .val (.int (Int32.ofNat (k - r))), .val (.int (own_em (k - r))), .unset, .unset] []))
          refine OwnG.go (fun _ kz => XS.iloadN X3.here hx rfl (hb hby at_142) rfl kz) ?_
          show OwnG _ _ _ _ _ _ (T3.setTop (mkF m 143 #[.val (.int p1), .val (.int p2), .val (.int p3), .val (.ref b1), .val (.int (Int32.ofNat k)), .val (.int (Int32.ofNat r)), .val (.int (Int32.ofNat (k - r))), .val (.int (own_em (k - r))), .unset, .unset] [(.int p3)]))
          refine OwnG.go (fun _ kz => XS.iconst X3.here hx rfl (hb hby at_143) kz) ?_
          show OwnG _ _ _ _ _ _ (T3.setTop (mkF m 144 #[.val (.int p1), .val (.int p2), .val (.int p3), .val (.ref b1), .val (.int (Int32.ofNat k)), .val (.int (Int32.ofNat r)), .val (.int (Int32.ofNat (k - r))), .val (.int (own_em (k - r))), .unset, .unset] [(.int (5 : Int32)), (.int p3)]))
          refine OwnG.go (fun _ kz => XS.iushr X3.here hx rfl (hb hby at_144) rfl kz) ?_
          show OwnG _ _ _ _ _ _ (T3.setTop (mkF m 145 #[.val (.int p1), .val (.int p2), .val (.int p3), .val (.ref b1), .val (.int (Int32.ofNat k)), .val (.int (Int32.ofNat r)), .val (.int (Int32.ofNat (k - r))), .val (.int (own_em (k - r))), .unset, .unset] [(.int ((p3.toUInt32 >>> ((5 : Int32) &&& 31).toUInt32).toInt32))]))
          refine OwnG.go (fun _ kz => XS.iconst X3.here hx rfl (hb hby at_145) kz) ?_
          show OwnG _ _ _ _ _ _ (T3.setTop (mkF m 146 #[.val (.int p1), .val (.int p2), .val (.int p3), .val (.ref b1), .val (.int (Int32.ofNat k)), .val (.int (Int32.ofNat r)), .val (.int (Int32.ofNat (k - r))), .val (.int (own_em (k - r))), .unset, .unset] [(.int (1 : Int32)), (.int ((p3.toUInt32 >>> ((5 : Int32) &&& 31).toUInt32).toInt32))]))
          refine OwnG.go (fun _ kz => XS.iand X3.here hx rfl (hb hby at_146) rfl kz) ?_
          show OwnG _ _ _ _ _ _ (T3.setTop (mkF m 147 #[.val (.int p1), .val (.int p2), .val (.int p3), .val (.ref b1), .val (.int (Int32.ofNat k)), .val (.int (Int32.ofNat r)), .val (.int (Int32.ofNat (k - r))), .val (.int (own_em (k - r))), .unset, .unset] [(.int (((p3.toUInt32 >>> ((5 : Int32) &&& 31).toUInt32).toInt32) &&& (1 : Int32)))]))
          have B166 : ∀ (cv : Int32) (sz' : Nat) (T_B166 : State) (Lx : List Loc), Stand p l e room_1 s m #[(.int p1), (.int p2), (.int p3)] below meth c T_B166 Lx 7 46 → OwnS Z T_B166.heap n0 b1 sz' → Fr n0 Lx → (cv = 0 ∧ sz' = k - r ∨ ¬ cv = 0 ∧ sz' = 0) → OwnG p.tables e below s room_1 (Q0 Z p1 p2 p3 h0 n0) (T_B166.setTop (mkF m 166 #[.val (.int p1), .val (.int p2), .val (.int p3), .val (.ref b1), .val (.int (Int32.ofNat k)), .val (.int (Int32.ofNat r)), .val (.int (Int32.ofNat (k - r))), .val (.int (own_em (k - r))), .val (.int cv), .unset] [])) := by
            intro cv sz' T_B166 Lx X_B166 S_B166 N_B166 hcv
            show OwnG _ _ _ _ _ _ (T_B166.setTop (mkF m 166 #[.val (.int p1), .val (.int p2), .val (.int p3), .val (.ref b1), .val (.int (Int32.ofNat k)), .val (.int (Int32.ofNat r)), .val (.int (Int32.ofNat (k - r))), .val (.int (own_em (k - r))), .val (.int cv), .unset] []))
            refine OwnG.go (fun _ kz => XS.aloadN X_B166.here hx rfl (hb hby at_166) rfl rfl kz) ?_
            show OwnG _ _ _ _ _ _ (T_B166.setTop (mkF m 167 #[.val (.int p1), .val (.int p2), .val (.int p3), .val (.ref b1), .val (.int (Int32.ofNat k)), .val (.int (Int32.ofNat r)), .val (.int (Int32.ofNat (k - r))), .val (.int (own_em (k - r))), .val (.int cv), .unset] [(.ref b1)]))
            obtain ⟨cq4, kq4, q4a, q4b, q4c⟩ := isOf hZ (rfl : T_B166.heap = T_B166.heap) S_B166.2.2.1
            obtain ⟨_, _, ⟨T4, L4, k4, n4⟩, -, X4, ⟨Lc4, hQ4, l4, y4, z4⟩, st4⟩ := X_B166.virtualBack hx (y := (⟨"com/example/saturate/saturate/ints/IntList", "isEmpty", "()Z"⟩ : MethodName)) (z := (⟨"com/example/saturate/saturate/ints/IntList", "isEmpty", "()Z"⟩ : MethodName)) hown (mvT hZ (hw _ (List.mem_of_getElem? (i := 19) rfl))) (mvT hZ (hw _ (List.mem_of_getElem? (i := 20) rfl))) (notFace_of_selects (args := #[]) (mvT hZ (hw _ (List.mem_of_getElem? (i := 22) rfl)))) (mvT hZ (hw _ (List.mem_of_getElem? (i := 22) rfl))) (mvT hZ (hw _ (List.mem_of_getElem? (i := 21) rfl))) (by decide) (backOf (W := 0) (rm4 l Z a0 hw [] b1 sz' T_B166.heap n0 S_B166.1 S_B166) hZ (hw _ (List.mem_of_getElem? (i := 23) rfl)) (hw _ (List.mem_of_getElem? (i := 2) rfl)) (by decide) (by decide)) q4a q4c (g := (mkF m 167 #[.val (.int p1), .val (.int p2), .val (.int p3), .val (.ref b1), .val (.int (Int32.ofNat k)), .val (.int (Int32.ofNat r)), .val (.int (Int32.ofNat (k - r))), .val (.int (own_em (k - r))), .val (.int cv), .unset] [(.ref b1)])) rfl (by rw [hml]; rfl) (Steps.refl _) (argsL := []) (rest := []) (lenOf pd_4 rfl) rfl (by show 2 * 0 + _ ≤ _; exact Nat.le_of_eq rfl) (hb hby at_167) (fun _ _ => ⟨rfl, (rfl : T_B166.heap = T_B166.heap), (by decide : 7 + 0 ≤ _), (by decide : 46 + 0 ≤ _)⟩)
            dsimp only [Pt.U, Pt.locs, Pt.cells, Pt.slots] at X4 l4 y4 z4 st4 hQ4
            subst l4 y4 z4
            obtain ⟨rfl, N4q, S4⟩ := hQ4
            have N4 := Fr.app N_B166 N4q
            refine OwnG.go (fun tz kz => st4.trans kz) ?_
            show OwnG _ _ _ _ _ _ (T4.setTop (mkF m 170 #[.val (.int p1), .val (.int p2), .val (.int p3), .val (.ref b1), .val (.int (Int32.ofNat k)), .val (.int (Int32.ofNat r)), .val (.int (Int32.ofNat (k - r))), .val (.int (own_em (k - r))), .val (.int cv), .unset] [(.int (own_em sz'))]))
            refine OwnG.go (fun _ kz => XS.istore X4.here hx rfl (hb hby at_170) rfl (l' := #[.val (.int p1), .val (.int p2), .val (.int p3), .val (.ref b1), .val (.int (Int32.ofNat k)), .val (.int (Int32.ofNat r)), .val (.int (Int32.ofNat (k - r))), .val (.int (own_em (k - r))), .val (.int cv), .val (.int (own_em sz'))]) rfl kz) ?_
            show OwnG _ _ _ _ _ _ (T4.setTop (mkF m 172 #[.val (.int p1), .val (.int p2), .val (.int p3), .val (.ref b1), .val (.int (Int32.ofNat k)), .val (.int (Int32.ofNat r)), .val (.int (Int32.ofNat (k - r))), .val (.int (own_em (k - r))), .val (.int cv), .val (.int (own_em sz'))] []))
            refine OwnG.go (fun _ kz => XS.iload X4.here hx rfl (hb hby at_172) rfl kz) ?_
            show OwnG _ _ _ _ _ _ (T4.setTop (mkF m 174 #[.val (.int p1), .val (.int p2), .val (.int p3), .val (.ref b1), .val (.int (Int32.ofNat k)), .val (.int (Int32.ofNat r)), .val (.int (Int32.ofNat (k - r))), .val (.int (own_em (k - r))), .val (.int cv), .val (.int (own_em sz'))] [(.int (own_em (k - r)))]))
            refine OwnG.go (fun _ kz => XS.iload X4.here hx rfl (hb hby at_174) rfl kz) ?_
            show OwnG _ _ _ _ _ _ (T4.setTop (mkF m 176 #[.val (.int p1), .val (.int p2), .val (.int p3), .val (.ref b1), .val (.int (Int32.ofNat k)), .val (.int (Int32.ofNat r)), .val (.int (Int32.ofNat (k - r))), .val (.int (own_em (k - r))), .val (.int cv), .val (.int (own_em sz'))] [(.int (Int32.ofNat (k - r))), (.int (own_em (k - r)))]))
            have B184 : ∀ bv : Int32, bv = own_em (k - r) → OwnG p.tables e below s room_1 (Q0 Z p1 p2 p3 h0 n0) (T4.setTop (mkF m 184 #[.val (.int p1), .val (.int p2), .val (.int p3), .val (.ref b1), .val (.int (Int32.ofNat k)), .val (.int (Int32.ofNat r)), .val (.int (Int32.ofNat (k - r))), .val (.int (own_em (k - r))), .val (.int cv), .val (.int (own_em sz'))] [(.int bv), (.int (own_em (k - r)))])) := by
              intro bv hbv
              show OwnG _ _ _ _ _ _ (T4.setTop (mkF m 184 #[.val (.int p1), .val (.int p2), .val (.int p3), .val (.ref b1), .val (.int (Int32.ofNat k)), .val (.int (Int32.ofNat r)), .val (.int (Int32.ofNat (k - r))), .val (.int (own_em (k - r))), .val (.int cv), .val (.int (own_em sz'))] [(.int bv), (.int (own_em (k - r)))]))
              refine OwnG.go (fun _ kz => XS.icmpNo X4.here hx rfl (hb hby at_184) rfl (teq hbv.symm).2 kz) ?_
              show OwnG _ _ _ _ _ _ (T4.setTop (mkF m 187 #[.val (.int p1), .val (.int p2), .val (.int p3), .val (.ref b1), .val (.int (Int32.ofNat k)), .val (.int (Int32.ofNat r)), .val (.int (Int32.ofNat (k - r))), .val (.int (own_em (k - r))), .val (.int cv), .val (.int (own_em sz'))] []))
              refine OwnG.go (fun _ kz => XS.iload X4.here hx rfl (hb hby at_187) rfl kz) ?_
              show OwnG _ _ _ _ _ _ (T4.setTop (mkF m 189 #[.val (.int p1), .val (.int p2), .val (.int p3), .val (.ref b1), .val (.int (Int32.ofNat k)), .val (.int (Int32.ofNat r)), .val (.int (Int32.ofNat (k - r))), .val (.int (own_em (k - r))), .val (.int cv), .val (.int (own_em sz'))] [(.int (own_em sz'))]))
              refine OwnG.go (fun _ kz => XS.iload X4.here hx rfl (hb hby at_189) rfl kz) ?_
              show OwnG _ _ _ _ _ _ (T4.setTop (mkF m 191 #[.val (.int p1), .val (.int p2), .val (.int p3), .val (.ref b1), .val (.int (Int32.ofNat k)), .val (.int (Int32.ofNat r)), .val (.int (Int32.ofNat (k - r))), .val (.int (own_em (k - r))), .val (.int cv), .val (.int (own_em sz'))] [(.int cv), (.int (own_em sz'))]))
              have B204 : ∀ bw : Int32, bw = own_em sz' → OwnG p.tables e below s room_1 (Q0 Z p1 p2 p3 h0 n0) (T4.setTop (mkF m 204 #[.val (.int p1), .val (.int p2), .val (.int p3), .val (.ref b1), .val (.int (Int32.ofNat k)), .val (.int (Int32.ofNat r)), .val (.int (Int32.ofNat (k - r))), .val (.int (own_em (k - r))), .val (.int cv), .val (.int (own_em sz'))] [(.int bw), (.int (own_em sz'))])) := by
                intro bw hbw
                show OwnG _ _ _ _ _ _ (T4.setTop (mkF m 204 #[.val (.int p1), .val (.int p2), .val (.int p3), .val (.ref b1), .val (.int (Int32.ofNat k)), .val (.int (Int32.ofNat r)), .val (.int (Int32.ofNat (k - r))), .val (.int (own_em (k - r))), .val (.int cv), .val (.int (own_em sz'))] [(.int bw), (.int (own_em sz'))]))
                refine OwnG.go (fun _ kz => XS.icmpNo X4.here hx rfl (hb hby at_204) rfl (teq hbw.symm).2 kz) ?_
                show OwnG _ _ _ _ _ _ (T4.setTop (mkF m 207 #[.val (.int p1), .val (.int p2), .val (.int p3), .val (.ref b1), .val (.int (Int32.ofNat k)), .val (.int (Int32.ofNat r)), .val (.int (Int32.ofNat (k - r))), .val (.int (own_em (k - r))), .val (.int cv), .val (.int (own_em sz'))] []))
                refine OwnG.go (fun _ kz => XS.iconst X4.here hx rfl (hb hby at_207) kz) ?_
                show OwnG _ _ _ _ _ _ (T4.setTop (mkF m 208 #[.val (.int p1), .val (.int p2), .val (.int p3), .val (.ref b1), .val (.int (Int32.ofNat k)), .val (.int (Int32.ofNat r)), .val (.int (Int32.ofNat (k - r))), .val (.int (own_em (k - r))), .val (.int cv), .val (.int (own_em sz'))] [(.int (1 : Int32))]))
                refine OwnG.go (fun _ kz => XS.goto X4.here hx rfl (pc0 := 208) (pc' := 212) rfl (hb hby at_208) (by decide) (by decide) kz) ?_
                show OwnG _ _ _ _ _ _ (T4.setTop (mkF m 212 #[.val (.int p1), .val (.int p2), .val (.int p3), .val (.ref b1), .val (.int (Int32.ofNat k)), .val (.int (Int32.ofNat r)), .val (.int (Int32.ofNat (k - r))), .val (.int (own_em (k - r))), .val (.int cv), .val (.int (own_em sz'))] [(.int (1 : Int32))]))
                obtain ⟨fs, hr, hrun, hended, hW, hsame⟩ := X4.leave (v := some (.int (1 : Int32))) (fun h => by rw [Bd.returns] at h; cases h)
                refine ⟨_, _, retN X4 hx (t := .boolean) Bd.returns (by simp) (hb hby at_212) hr, hrun, hended, _, _, rfl, ?_, ⟨_, rfl⟩, hW, hsame.mono (by decide) (by decide)⟩
                show (Q0 Z p1 p2 p3 h0 n0) _ T4.heap _
                exact ⟨rfl, N4⟩
              by_cases c5 : cv = (0 : Int32)
              · have _u := ()
                refine OwnG.go (fun _ kz => XS.ifNo X4.here hx rfl (hb hby at_191) rfl ((if0 _ _).trans (teq c5).2) kz) ?_
                show OwnG _ _ _ _ _ _ (T4.setTop (mkF m 194 #[.val (.int p1), .val (.int p2), .val (.int p3), .val (.ref b1), .val (.int (Int32.ofNat k)), .val (.int (Int32.ofNat r)), .val (.int (Int32.ofNat (k - r))), .val (.int (own_em (k - r))), .val (.int cv), .val (.int (own_em sz'))] [(.int (own_em sz'))]))
                have hs : sz' = k - r := by
                  rcases hcv with ⟨-, q⟩ | ⟨q, -⟩
                  · exact q
                  · exact absurd c5 q
                refine OwnG.go (fun _ kz => XS.iload X4.here hx rfl (hb hby at_194) rfl kz) ?_
                show OwnG _ _ _ _ _ _ (T4.setTop (mkF m 196 #[.val (.int p1), .val (.int p2), .val (.int p3), .val (.ref b1), .val (.int (Int32.ofNat k)), .val (.int (Int32.ofNat r)), .val (.int (Int32.ofNat (k - r))), .val (.int (own_em (k - r))), .val (.int cv), .val (.int (own_em sz'))] [(.int (Int32.ofNat (k - r))), (.int (own_em sz'))]))
                by_cases c6 : (Int32.ofNat (k - r)) = (0 : Int32)
                · have _u := ()
                  refine OwnG.go (fun _ kz => XS.ifNo X4.here hx rfl (hb hby at_196) rfl ((if0 _ _).trans (teq c6).2) kz) ?_
                  show OwnG _ _ _ _ _ _ (T4.setTop (mkF m 199 #[.val (.int p1), .val (.int p2), .val (.int p3), .val (.ref b1), .val (.int (Int32.ofNat k)), .val (.int (Int32.ofNat r)), .val (.int (Int32.ofNat (k - r))), .val (.int (own_em (k - r))), .val (.int cv), .val (.int (own_em sz'))] [(.int (own_em sz'))]))
                  have hz : k - r = 0 := (own_eq (i := k - r) (j := 0) (by omega) (by omega)).mp c6
                  refine OwnG.go (fun _ kz => XS.iconst X4.here hx rfl (hb hby at_199) kz) ?_
                  show OwnG _ _ _ _ _ _ (T4.setTop (mkF m 200 #[.val (.int p1), .val (.int p2), .val (.int p3), .val (.ref b1), .val (.int (Int32.ofNat k)), .val (.int (Int32.ofNat r)), .val (.int (Int32.ofNat (k - r))), .val (.int (own_em (k - r))), .val (.int cv), .val (.int (own_em sz'))] [(.int (1 : Int32)), (.int (own_em sz'))]))
                  refine OwnG.go (fun _ kz => XS.goto X4.here hx rfl (pc0 := 200) (pc' := 204) rfl (hb hby at_200) (by decide) (by decide) kz) ?_
                  show OwnG _ _ _ _ _ _ (T4.setTop (mkF m 204 #[.val (.int p1), .val (.int p2), .val (.int p3), .val (.ref b1), .val (.int (Int32.ofNat k)), .val (.int (Int32.ofNat r)), .val (.int (Int32.ofNat (k - r))), .val (.int (own_em (k - r))), .val (.int cv), .val (.int (own_em sz'))] [(.int (1 : Int32)), (.int (own_em sz'))]))
                  exact B204 _ (by rw [hs, own_em, if_pos hz])
                · have _u := ()
                  refine OwnG.go (fun _ kz => XS.ifYes X4.here hx rfl (pc0 := 196) (pc' := 203) rfl (hb hby at_196) rfl ((if0 _ _).trans (feq c6).2) (by decide) (by decide) kz) ?_
                  show OwnG _ _ _ _ _ _ (T4.setTop (mkF m 203 #[.val (.int p1), .val (.int p2), .val (.int p3), .val (.ref b1), .val (.int (Int32.ofNat k)), .val (.int (Int32.ofNat r)), .val (.int (Int32.ofNat (k - r))), .val (.int (own_em (k - r))), .val (.int cv), .val (.int (own_em sz'))] [(.int (own_em sz'))]))
                  have hz : ¬ k - r = 0 := fun q => c6 (by rw [q]; rfl)
                  refine OwnG.go (fun _ kz => XS.iconst X4.here hx rfl (hb hby at_203) kz) ?_
                  show OwnG _ _ _ _ _ _ (T4.setTop (mkF m 204 #[.val (.int p1), .val (.int p2), .val (.int p3), .val (.ref b1), .val (.int (Int32.ofNat k)), .val (.int (Int32.ofNat r)), .val (.int (Int32.ofNat (k - r))), .val (.int (own_em (k - r))), .val (.int cv), .val (.int (own_em sz'))] [(.int (0 : Int32)), (.int (own_em sz'))]))
                  exact B204 _ (by rw [hs, own_em, if_neg hz])
              · have _u := ()
                refine OwnG.go (fun _ kz => XS.ifYes X4.here hx rfl (pc0 := 191) (pc' := 199) rfl (hb hby at_191) rfl ((if0 _ _).trans (feq c5).2) (by decide) (by decide) kz) ?_
                show OwnG _ _ _ _ _ _ (T4.setTop (mkF m 199 #[.val (.int p1), .val (.int p2), .val (.int p3), .val (.ref b1), .val (.int (Int32.ofNat k)), .val (.int (Int32.ofNat r)), .val (.int (Int32.ofNat (k - r))), .val (.int (own_em (k - r))), .val (.int cv), .val (.int (own_em sz'))] [(.int (own_em sz'))]))
                have hs : sz' = 0 := by
                  rcases hcv with ⟨q, -⟩ | ⟨-, q⟩
                  · exact absurd q c5
                  · exact q
                refine OwnG.go (fun _ kz => XS.iconst X4.here hx rfl (hb hby at_199) kz) ?_
                show OwnG _ _ _ _ _ _ (T4.setTop (mkF m 200 #[.val (.int p1), .val (.int p2), .val (.int p3), .val (.ref b1), .val (.int (Int32.ofNat k)), .val (.int (Int32.ofNat r)), .val (.int (Int32.ofNat (k - r))), .val (.int (own_em (k - r))), .val (.int cv), .val (.int (own_em sz'))] [(.int (1 : Int32)), (.int (own_em sz'))]))
                refine OwnG.go (fun _ kz => XS.goto X4.here hx rfl (pc0 := 200) (pc' := 204) rfl (hb hby at_200) (by decide) (by decide) kz) ?_
                show OwnG _ _ _ _ _ _ (T4.setTop (mkF m 204 #[.val (.int p1), .val (.int p2), .val (.int p3), .val (.ref b1), .val (.int (Int32.ofNat k)), .val (.int (Int32.ofNat r)), .val (.int (Int32.ofNat (k - r))), .val (.int (own_em (k - r))), .val (.int cv), .val (.int (own_em sz'))] [(.int (1 : Int32)), (.int (own_em sz'))]))
                exact B204 _ (by rw [hs, own_em, if_pos rfl])
            by_cases c4 : (Int32.ofNat (k - r)) = (0 : Int32)
            · have _u := ()
              refine OwnG.go (fun _ kz => XS.ifNo X4.here hx rfl (hb hby at_176) rfl ((if0 _ _).trans (teq c4).2) kz) ?_
              show OwnG _ _ _ _ _ _ (T4.setTop (mkF m 179 #[.val (.int p1), .val (.int p2), .val (.int p3), .val (.ref b1), .val (.int (Int32.ofNat k)), .val (.int (Int32.ofNat r)), .val (.int (Int32.ofNat (k - r))), .val (.int (own_em (k - r))), .val (.int cv), .val (.int (own_em sz'))] [(.int (own_em (k - r)))]))
              have hz : k - r = 0 := (own_eq (i := k - r) (j := 0) (by omega) (by omega)).mp c4
              refine OwnG.go (fun _ kz => XS.iconst X4.here hx rfl (hb hby at_179) kz) ?_
              show OwnG _ _ _ _ _ _ (T4.setTop (mkF m 180 #[.val (.int p1), .val (.int p2), .val (.int p3), .val (.ref b1), .val (.int (Int32.ofNat k)), .val (.int (Int32.ofNat r)), .val (.int (Int32.ofNat (k - r))), .val (.int (own_em (k - r))), .val (.int cv), .val (.int (own_em sz'))] [(.int (1 : Int32)), (.int (own_em (k - r)))]))
              refine OwnG.go (fun _ kz => XS.goto X4.here hx rfl (pc0 := 180) (pc' := 184) rfl (hb hby at_180) (by decide) (by decide) kz) ?_
              show OwnG _ _ _ _ _ _ (T4.setTop (mkF m 184 #[.val (.int p1), .val (.int p2), .val (.int p3), .val (.ref b1), .val (.int (Int32.ofNat k)), .val (.int (Int32.ofNat r)), .val (.int (Int32.ofNat (k - r))), .val (.int (own_em (k - r))), .val (.int cv), .val (.int (own_em sz'))] [(.int (1 : Int32)), (.int (own_em (k - r)))]))
              exact B184 _ (by rw [own_em, if_pos hz])
            · have _u := ()
              refine OwnG.go (fun _ kz => XS.ifYes X4.here hx rfl (pc0 := 176) (pc' := 183) rfl (hb hby at_176) rfl ((if0 _ _).trans (feq c4).2) (by decide) (by decide) kz) ?_
              show OwnG _ _ _ _ _ _ (T4.setTop (mkF m 183 #[.val (.int p1), .val (.int p2), .val (.int p3), .val (.ref b1), .val (.int (Int32.ofNat k)), .val (.int (Int32.ofNat r)), .val (.int (Int32.ofNat (k - r))), .val (.int (own_em (k - r))), .val (.int cv), .val (.int (own_em sz'))] [(.int (own_em (k - r)))]))
              have hz : ¬ k - r = 0 := fun q => c4 (by rw [q]; rfl)
              refine OwnG.go (fun _ kz => XS.iconst X4.here hx rfl (hb hby at_183) kz) ?_
              show OwnG _ _ _ _ _ _ (T4.setTop (mkF m 184 #[.val (.int p1), .val (.int p2), .val (.int p3), .val (.ref b1), .val (.int (Int32.ofNat k)), .val (.int (Int32.ofNat r)), .val (.int (Int32.ofNat (k - r))), .val (.int (own_em (k - r))), .val (.int cv), .val (.int (own_em sz'))] [(.int (0 : Int32)), (.int (own_em (k - r)))]))
              exact B184 _ (by rw [own_em, if_neg hz])
          by_cases c3 : (((p3.toUInt32 >>> ((5 : Int32) &&& 31).toUInt32).toInt32) &&& (1 : Int32)) = (0 : Int32)
          · have _u := ()
            refine OwnG.go (fun _ kz => XS.ifYes X3.here hx rfl (pc0 := 147) (pc' := 154) rfl (hb hby at_147) rfl ((if0 _ _).trans (teq c3).1) (by decide) (by decide) kz) ?_
            show OwnG _ _ _ _ _ _ (T3.setTop (mkF m 154 #[.val (.int p1), .val (.int p2), .val (.int p3), .val (.ref b1), .val (.int (Int32.ofNat k)), .val (.int (Int32.ofNat r)), .val (.int (Int32.ofNat (k - r))), .val (.int (own_em (k - r))), .unset, .unset] []))
            refine OwnG.go (fun _ kz => XS.iconst X3.here hx rfl (hb hby at_154) kz) ?_
            show OwnG _ _ _ _ _ _ (T3.setTop (mkF m 155 #[.val (.int p1), .val (.int p2), .val (.int p3), .val (.ref b1), .val (.int (Int32.ofNat k)), .val (.int (Int32.ofNat r)), .val (.int (Int32.ofNat (k - r))), .val (.int (own_em (k - r))), .unset, .unset] [(.int (0 : Int32))]))
            refine OwnG.go (fun _ kz => XS.istore X3.here hx rfl (hb hby at_155) rfl (l' := #[.val (.int p1), .val (.int p2), .val (.int p3), .val (.ref b1), .val (.int (Int32.ofNat k)), .val (.int (Int32.ofNat r)), .val (.int (Int32.ofNat (k - r))), .val (.int (own_em (k - r))), .val (.int (0 : Int32)), .unset]) rfl kz) ?_
            show OwnG _ _ _ _ _ _ (T3.setTop (mkF m 157 #[.val (.int p1), .val (.int p2), .val (.int p3), .val (.ref b1), .val (.int (Int32.ofNat k)), .val (.int (Int32.ofNat r)), .val (.int (Int32.ofNat (k - r))), .val (.int (own_em (k - r))), .val (.int (0 : Int32)), .unset] []))
            refine OwnG.go (fun _ kz => XS.iload X3.here hx rfl (hb hby at_157) rfl kz) ?_
            show OwnG _ _ _ _ _ _ (T3.setTop (mkF m 159 #[.val (.int p1), .val (.int p2), .val (.int p3), .val (.ref b1), .val (.int (Int32.ofNat k)), .val (.int (Int32.ofNat r)), .val (.int (Int32.ofNat (k - r))), .val (.int (own_em (k - r))), .val (.int (0 : Int32)), .unset] [(.int (0 : Int32))]))
            refine OwnG.go (fun _ kz => XS.ifYes X3.here hx rfl (pc0 := 159) (pc' := 166) rfl (hb hby at_159) rfl ((if0 _ _).trans (teq rfl).1) (by decide) (by decide) kz) ?_
            show OwnG _ _ _ _ _ _ (T3.setTop (mkF m 166 #[.val (.int p1), .val (.int p2), .val (.int p3), .val (.ref b1), .val (.int (Int32.ofNat k)), .val (.int (Int32.ofNat r)), .val (.int (Int32.ofNat (k - r))), .val (.int (own_em (k - r))), .val (.int (0 : Int32)), .unset] []))
            exact B166 _ _ _ _ X3 S3 N3 (Or.inl ⟨rfl, rfl⟩)
          · have _u := ()
            refine OwnG.go (fun _ kz => XS.ifNo X3.here hx rfl (hb hby at_147) rfl ((if0 _ _).trans (feq c3).1) kz) ?_
            show OwnG _ _ _ _ _ _ (T3.setTop (mkF m 150 #[.val (.int p1), .val (.int p2), .val (.int p3), .val (.ref b1), .val (.int (Int32.ofNat k)), .val (.int (Int32.ofNat r)), .val (.int (Int32.ofNat (k - r))), .val (.int (own_em (k - r))), .unset, .unset] []))
            refine OwnG.go (fun _ kz => XS.iconst X3.here hx rfl (hb hby at_150) kz) ?_
            show OwnG _ _ _ _ _ _ (T3.setTop (mkF m 151 #[.val (.int p1), .val (.int p2), .val (.int p3), .val (.ref b1), .val (.int (Int32.ofNat k)), .val (.int (Int32.ofNat r)), .val (.int (Int32.ofNat (k - r))), .val (.int (own_em (k - r))), .unset, .unset] [(.int (1 : Int32))]))
            refine OwnG.go (fun _ kz => XS.goto X3.here hx rfl (pc0 := 151) (pc' := 155) rfl (hb hby at_151) (by decide) (by decide) kz) ?_
            show OwnG _ _ _ _ _ _ (T3.setTop (mkF m 155 #[.val (.int p1), .val (.int p2), .val (.int p3), .val (.ref b1), .val (.int (Int32.ofNat k)), .val (.int (Int32.ofNat r)), .val (.int (Int32.ofNat (k - r))), .val (.int (own_em (k - r))), .unset, .unset] [(.int (1 : Int32))]))
            refine OwnG.go (fun _ kz => XS.istore X3.here hx rfl (hb hby at_155) rfl (l' := #[.val (.int p1), .val (.int p2), .val (.int p3), .val (.ref b1), .val (.int (Int32.ofNat k)), .val (.int (Int32.ofNat r)), .val (.int (Int32.ofNat (k - r))), .val (.int (own_em (k - r))), .val (.int (1 : Int32)), .unset]) rfl kz) ?_
            show OwnG _ _ _ _ _ _ (T3.setTop (mkF m 157 #[.val (.int p1), .val (.int p2), .val (.int p3), .val (.ref b1), .val (.int (Int32.ofNat k)), .val (.int (Int32.ofNat r)), .val (.int (Int32.ofNat (k - r))), .val (.int (own_em (k - r))), .val (.int (1 : Int32)), .unset] []))
            refine OwnG.go (fun _ kz => XS.iload X3.here hx rfl (hb hby at_157) rfl kz) ?_
            show OwnG _ _ _ _ _ _ (T3.setTop (mkF m 159 #[.val (.int p1), .val (.int p2), .val (.int p3), .val (.ref b1), .val (.int (Int32.ofNat k)), .val (.int (Int32.ofNat r)), .val (.int (Int32.ofNat (k - r))), .val (.int (own_em (k - r))), .val (.int (1 : Int32)), .unset] [(.int (1 : Int32))]))
            refine OwnG.go (fun _ kz => XS.ifNo X3.here hx rfl (hb hby at_159) rfl ((if0 _ _).trans (feq (by decide)).1) kz) ?_
            show OwnG _ _ _ _ _ _ (T3.setTop (mkF m 162 #[.val (.int p1), .val (.int p2), .val (.int p3), .val (.ref b1), .val (.int (Int32.ofNat k)), .val (.int (Int32.ofNat r)), .val (.int (Int32.ofNat (k - r))), .val (.int (own_em (k - r))), .val (.int (1 : Int32)), .unset] []))
            refine OwnG.go (fun _ kz => XS.aloadN X3.here hx rfl (hb hby at_162) rfl rfl kz) ?_
            show OwnG _ _ _ _ _ _ (T3.setTop (mkF m 163 #[.val (.int p1), .val (.int p2), .val (.int p3), .val (.ref b1), .val (.int (Int32.ofNat k)), .val (.int (Int32.ofNat r)), .val (.int (Int32.ofNat (k - r))), .val (.int (own_em (k - r))), .val (.int (1 : Int32)), .unset] [(.ref b1)]))
            obtain ⟨cq5, kq5, q5a, q5b, q5c⟩ := isOf hZ (rfl : T3.heap = T3.heap) S3.2.2.1
            obtain ⟨_, _, ⟨T5, L5, k5, n5⟩, -, X5, ⟨Lc5, hQ5, l5, y5, z5⟩, st5⟩ := X3.virtualBack hx (y := (⟨"com/example/saturate/saturate/ints/IntList", "clear", "()V"⟩ : MethodName)) (z := (⟨"com/example/saturate/saturate/ints/IntList", "clear", "()V"⟩ : MethodName)) hown (mvT hZ (hw _ (List.mem_of_getElem? (i := 41) rfl))) (mvT hZ (hw _ (List.mem_of_getElem? (i := 42) rfl))) (notFace_of_selects (args := #[]) (mvT hZ (hw _ (List.mem_of_getElem? (i := 44) rfl)))) (mvT hZ (hw _ (List.mem_of_getElem? (i := 44) rfl))) (mvT hZ (hw _ (List.mem_of_getElem? (i := 43) rfl))) (by decide) (backOf (W := 0) (rm8 l Z a0 hw [] b1 (k - r) T3.heap n0 S3.1 S3) hZ (hw _ (List.mem_of_getElem? (i := 45) rfl)) (hw _ (List.mem_of_getElem? (i := 2) rfl)) (by decide) (by decide)) q5a q5c (g := (mkF m 163 #[.val (.int p1), .val (.int p2), .val (.int p3), .val (.ref b1), .val (.int (Int32.ofNat k)), .val (.int (Int32.ofNat r)), .val (.int (Int32.ofNat (k - r))), .val (.int (own_em (k - r))), .val (.int (1 : Int32)), .unset] [(.ref b1)])) rfl (by rw [hml]; rfl) (Steps.refl _) (argsL := []) (rest := []) (lenOf pd_8 rfl) rfl (by show 2 * 0 + _ ≤ _; exact Nat.le_of_eq rfl) (hb hby at_163) (fun _ _ => ⟨rfl, (rfl : T3.heap = T3.heap), (by decide : 7 + 0 ≤ _), (by decide : 46 + 0 ≤ _)⟩)
            dsimp only [Pt.U, Pt.locs, Pt.cells, Pt.slots] at X5 l5 y5 z5 st5 hQ5
            subst l5 y5 z5
            obtain ⟨rfl, N5q, S5⟩ := hQ5
            have N5 := Fr.app N3 N5q
            refine OwnG.go (fun tz kz => st5.trans kz) ?_
            show OwnG _ _ _ _ _ _ (T5.setTop (mkF m 166 #[.val (.int p1), .val (.int p2), .val (.int p3), .val (.ref b1), .val (.int (Int32.ofNat k)), .val (.int (Int32.ofNat r)), .val (.int (Int32.ofNat (k - r))), .val (.int (own_em (k - r))), .val (.int (1 : Int32)), .unset] []))
            exact B166 _ _ _ _ X5 S5 N5 (Or.inr ⟨by decide, rfl⟩)
        have B118 : ∀ (T_B118 : State) (Lx : List Loc), Stand p l e room_1 s m #[(.int p1), (.int p2), (.int p3)] below meth c T_B118 Lx 7 46 → OwnS Z T_B118.heap n0 b1 (k - min r 1) → Fr n0 Lx → OwnG p.tables e below s room_1 (Q0 Z p1 p2 p3 h0 n0) (T_B118.setTop (mkF m 118 #[.val (.int p1), .val (.int p2), .val (.int p3), .val (.ref b1), .val (.int (Int32.ofNat k)), .val (.int (Int32.ofNat r)), .unset, .unset, .unset, .unset] [])) := by
          intro T_B118 Lx X_B118 S_B118 N_B118
          show OwnG _ _ _ _ _ _ (T_B118.setTop (mkF m 118 #[.val (.int p1), .val (.int p2), .val (.int p3), .val (.ref b1), .val (.int (Int32.ofNat k)), .val (.int (Int32.ofNat r)), .unset, .unset, .unset, .unset] []))
          refine OwnG.go (fun _ kz => XS.iload X_B118.here hx rfl (hb hby at_118) rfl kz) ?_
          show OwnG _ _ _ _ _ _ (T_B118.setTop (mkF m 120 #[.val (.int p1), .val (.int p2), .val (.int p3), .val (.ref b1), .val (.int (Int32.ofNat k)), .val (.int (Int32.ofNat r)), .unset, .unset, .unset, .unset] [(.int (Int32.ofNat r))]))
          refine OwnG.go (fun _ kz => XS.iconst X_B118.here hx rfl (hb hby at_120) kz) ?_
          show OwnG _ _ _ _ _ _ (T_B118.setTop (mkF m 121 #[.val (.int p1), .val (.int p2), .val (.int p3), .val (.ref b1), .val (.int (Int32.ofNat k)), .val (.int (Int32.ofNat r)), .unset, .unset, .unset, .unset] [(.int (2 : Int32)), (.int (Int32.ofNat r))]))
          by_cases c2 : (Int32.ofNat r) < (2 : Int32)
          · have _u := ()
            refine OwnG.go (fun _ kz => XS.icmpYes X_B118.here hx rfl (pc0 := 121) (pc' := 129) rfl (hb hby at_121) rfl (tlt c2).1 (by decide) (by decide) kz) ?_
            show OwnG _ _ _ _ _ _ (T_B118.setTop (mkF m 129 #[.val (.int p1), .val (.int p2), .val (.int p3), .val (.ref b1), .val (.int (Int32.ofNat k)), .val (.int (Int32.ofNat r)), .unset, .unset, .unset, .unset] []))
            have hq : r < 2 := (own_lt (i := r) (j := 2) (by omega) (by omega)).mp c2
            have he : k - min r 1 = k - r := by omega
            rw [he] at S_B118
            exact B129 _ _ X_B118 S_B118 N_B118
          · have _u := ()
            refine OwnG.go (fun _ kz => XS.icmpNo X_B118.here hx rfl (hb hby at_121) rfl (flt c2).1 kz) ?_
            show OwnG _ _ _ _ _ _ (T_B118.setTop (mkF m 124 #[.val (.int p1), .val (.int p2), .val (.int p3), .val (.ref b1), .val (.int (Int32.ofNat k)), .val (.int (Int32.ofNat r)), .unset, .unset, .unset, .unset] []))
            have hq : ¬ r < 2 := fun q => c2 ((own_lt (i := r) (j := 2) (by omega) (by omega)).mpr q)
            have he : k - min r 1 - 1 = k - r := by omega
            refine OwnG.go (fun _ kz => XS.aloadN X_B118.here hx rfl (hb hby at_124) rfl rfl kz) ?_
            show OwnG _ _ _ _ _ _ (T_B118.setTop (mkF m 125 #[.val (.int p1), .val (.int p2), .val (.int p3), .val (.ref b1), .val (.int (Int32.ofNat k)), .val (.int (Int32.ofNat r)), .unset, .unset, .unset, .unset] [(.ref b1)]))
            obtain ⟨cq6, kq6, q6a, q6b, q6c⟩ := isOf hZ (rfl : T_B118.heap = T_B118.heap) S_B118.2.2.1
            obtain ⟨_, _, ⟨T6, L6, k6, n6⟩, -, X6, ⟨Lc6, hQ6, l6, y6, z6⟩, st6⟩ := X_B118.virtualBack hx (y := (⟨"com/example/saturate/saturate/ints/IntList", "removeLast", "()I"⟩ : MethodName)) (z := (⟨"com/example/saturate/saturate/ints/IntList", "removeLast", "()I"⟩ : MethodName)) hown (mvT hZ (hw _ (List.mem_of_getElem? (i := 36) rfl))) (mvT hZ (hw _ (List.mem_of_getElem? (i := 37) rfl))) (notFace_of_selects (args := #[]) (mvT hZ (hw _ (List.mem_of_getElem? (i := 39) rfl)))) (mvT hZ (hw _ (List.mem_of_getElem? (i := 39) rfl))) (mvT hZ (hw _ (List.mem_of_getElem? (i := 38) rfl))) (by decide) (backOf (W := 0) (rm7 l Z a0 hw [] b1 (k - min r 1) T_B118.heap n0 S_B118.1 S_B118 (by omega)) hZ (hw _ (List.mem_of_getElem? (i := 40) rfl)) (hw _ (List.mem_of_getElem? (i := 2) rfl)) (by decide) (by decide)) q6a q6c (g := (mkF m 125 #[.val (.int p1), .val (.int p2), .val (.int p3), .val (.ref b1), .val (.int (Int32.ofNat k)), .val (.int (Int32.ofNat r)), .unset, .unset, .unset, .unset] [(.ref b1)])) rfl (by rw [hml]; rfl) (Steps.refl _) (argsL := []) (rest := []) (lenOf pd_7 rfl) rfl (by show 2 * 0 + _ ≤ _; exact Nat.le_of_eq rfl) (hb hby at_125) (fun _ _ => ⟨rfl, (rfl : T_B118.heap = T_B118.heap), (by decide : 7 + 0 ≤ _), (by decide : 46 + 0 ≤ _)⟩)
            dsimp only [Pt.U, Pt.locs, Pt.cells, Pt.slots] at X6 l6 y6 z6 st6 hQ6
            subst l6 y6 z6
            obtain ⟨⟨yv, rfl⟩, N6q, S6⟩ := hQ6
            have N6 := Fr.app N_B118 N6q
            refine OwnG.go (fun tz kz => st6.trans kz) ?_
            show OwnG _ _ _ _ _ _ (T6.setTop (mkF m 128 #[.val (.int p1), .val (.int p2), .val (.int p3), .val (.ref b1), .val (.int (Int32.ofNat k)), .val (.int (Int32.ofNat r)), .unset, .unset, .unset, .unset] [(.int yv)]))
            rw [he] at S6
            refine OwnG.go (fun _ kz => XS.pop X6.here hx rfl (hb hby at_128) rfl rfl kz) ?_
            show OwnG _ _ _ _ _ _ (T6.setTop (mkF m 129 #[.val (.int p1), .val (.int p2), .val (.int p3), .val (.ref b1), .val (.int (Int32.ofNat k)), .val (.int (Int32.ofNat r)), .unset, .unset, .unset, .unset] []))
            exact B129 _ _ X6 S6 N6
        show OwnG _ _ _ _ _ _ (T_B80.setTop (mkF m 107 #[.val (.int p1), .val (.int p2), .val (.int p3), .val (.ref b1), .val (.int (Int32.ofNat k)), .val (.int (Int32.ofNat r)), .unset, .unset, .unset, .unset] []))
        refine OwnG.go (fun _ kz => XS.iload X_B80.here hx rfl (hb hby at_107) rfl kz) ?_
        show OwnG _ _ _ _ _ _ (T_B80.setTop (mkF m 109 #[.val (.int p1), .val (.int p2), .val (.int p3), .val (.ref b1), .val (.int (Int32.ofNat k)), .val (.int (Int32.ofNat r)), .unset, .unset, .unset, .unset] [(.int (Int32.ofNat r))]))
        refine OwnG.go (fun _ kz => XS.iconst X_B80.here hx rfl (hb hby at_109) kz) ?_
        show OwnG _ _ _ _ _ _ (T_B80.setTop (mkF m 110 #[.val (.int p1), .val (.int p2), .val (.int p3), .val (.ref b1), .val (.int (Int32.ofNat k)), .val (.int (Int32.ofNat r)), .unset, .unset, .unset, .unset] [(.int (1 : Int32)), (.int (Int32.ofNat r))]))
        by_cases c1 : (Int32.ofNat r) < (1 : Int32)
        · have _u := ()
          refine OwnG.go (fun _ kz => XS.icmpYes X_B80.here hx rfl (pc0 := 110) (pc' := 118) rfl (hb hby at_110) rfl (tlt c1).1 (by decide) (by decide) kz) ?_
          show OwnG _ _ _ _ _ _ (T_B80.setTop (mkF m 118 #[.val (.int p1), .val (.int p2), .val (.int p3), .val (.ref b1), .val (.int (Int32.ofNat k)), .val (.int (Int32.ofNat r)), .unset, .unset, .unset, .unset] []))
          have hq : r < 1 := (own_lt (i := r) (j := 1) (by omega) (by omega)).mp c1
          have he : k = k - min r 1 := by omega
          exact B118 _ _ X_B80 (he ▸ S_B80) N_B80
        · have _u := ()
          refine OwnG.go (fun _ kz => XS.icmpNo X_B80.here hx rfl (hb hby at_110) rfl (flt c1).1 kz) ?_
          show OwnG _ _ _ _ _ _ (T_B80.setTop (mkF m 113 #[.val (.int p1), .val (.int p2), .val (.int p3), .val (.ref b1), .val (.int (Int32.ofNat k)), .val (.int (Int32.ofNat r)), .unset, .unset, .unset, .unset] []))
          have hq : ¬ r < 1 := fun q => c1 ((own_lt (i := r) (j := 1) (by omega) (by omega)).mpr q)
          have he : k - 1 = k - min r 1 := by omega
          refine OwnG.go (fun _ kz => XS.aloadN X_B80.here hx rfl (hb hby at_113) rfl rfl kz) ?_
          show OwnG _ _ _ _ _ _ (T_B80.setTop (mkF m 114 #[.val (.int p1), .val (.int p2), .val (.int p3), .val (.ref b1), .val (.int (Int32.ofNat k)), .val (.int (Int32.ofNat r)), .unset, .unset, .unset, .unset] [(.ref b1)]))
          obtain ⟨cq7, kq7, q7a, q7b, q7c⟩ := isOf hZ (rfl : T_B80.heap = T_B80.heap) S_B80.2.2.1
          obtain ⟨_, _, ⟨T7, L7, k7, n7⟩, -, X7, ⟨Lc7, hQ7, l7, y7, z7⟩, st7⟩ := X_B80.virtualBack hx (y := (⟨"com/example/saturate/saturate/ints/IntList", "removeLast", "()I"⟩ : MethodName)) (z := (⟨"com/example/saturate/saturate/ints/IntList", "removeLast", "()I"⟩ : MethodName)) hown (mvT hZ (hw _ (List.mem_of_getElem? (i := 36) rfl))) (mvT hZ (hw _ (List.mem_of_getElem? (i := 37) rfl))) (notFace_of_selects (args := #[]) (mvT hZ (hw _ (List.mem_of_getElem? (i := 39) rfl)))) (mvT hZ (hw _ (List.mem_of_getElem? (i := 39) rfl))) (mvT hZ (hw _ (List.mem_of_getElem? (i := 38) rfl))) (by decide) (backOf (W := 0) (rm7 l Z a0 hw [] b1 k T_B80.heap n0 S_B80.1 S_B80 (by omega)) hZ (hw _ (List.mem_of_getElem? (i := 40) rfl)) (hw _ (List.mem_of_getElem? (i := 2) rfl)) (by decide) (by decide)) q7a q7c (g := (mkF m 114 #[.val (.int p1), .val (.int p2), .val (.int p3), .val (.ref b1), .val (.int (Int32.ofNat k)), .val (.int (Int32.ofNat r)), .unset, .unset, .unset, .unset] [(.ref b1)])) rfl (by rw [hml]; rfl) (Steps.refl _) (argsL := []) (rest := []) (lenOf pd_7 rfl) rfl (by show 2 * 0 + _ ≤ _; exact Nat.le_of_eq rfl) (hb hby at_114) (fun _ _ => ⟨rfl, (rfl : T_B80.heap = T_B80.heap), (by decide : 7 + 0 ≤ _), (by decide : 46 + 0 ≤ _)⟩)
          dsimp only [Pt.U, Pt.locs, Pt.cells, Pt.slots] at X7 l7 y7 z7 st7 hQ7
          subst l7 y7 z7
          obtain ⟨⟨yv, rfl⟩, N7q, S7⟩ := hQ7
          have N7 := Fr.app N_B80 N7q
          refine OwnG.go (fun tz kz => st7.trans kz) ?_
          show OwnG _ _ _ _ _ _ (T7.setTop (mkF m 117 #[.val (.int p1), .val (.int p2), .val (.int p3), .val (.ref b1), .val (.int (Int32.ofNat k)), .val (.int (Int32.ofNat r)), .unset, .unset, .unset, .unset] [(.int yv)]))
          refine OwnG.go (fun _ kz => XS.pop X7.here hx rfl (hb hby at_117) rfl rfl kz) ?_
          show OwnG _ _ _ _ _ _ (T7.setTop (mkF m 118 #[.val (.int p1), .val (.int p2), .val (.int p3), .val (.ref b1), .val (.int (Int32.ofNat k)), .val (.int (Int32.ofNat r)), .unset, .unset, .unset, .unset] []))
          exact B118 _ _ X7 (he ▸ S7) N7
      have B96 : ∀ r : Nat, r ≤ 2 → OwnG p.tables e below s room_1 (Q0 Z p1 p2 p3 h0 n0) (T_B80.setTop (mkF m 96 #[.val (.int p1), .val (.int p2), .val (.int p3), .val (.ref b1), .val (.int (Int32.ofNat k)), .val (.int (Int32.ofNat r)), .unset, .unset, .unset, .unset] [])) := by
        intro r hr
        show OwnG _ _ _ _ _ _ (T_B80.setTop (mkF m 96 #[.val (.int p1), .val (.int p2), .val (.int p3), .val (.ref b1), .val (.int (Int32.ofNat k)), .val (.int (Int32.ofNat r)), .unset, .unset, .unset, .unset] []))
        refine OwnG.go (fun _ kz => XS.iload X_B80.here hx rfl (hb hby at_96) rfl kz) ?_
        show OwnG _ _ _ _ _ _ (T_B80.setTop (mkF m 98 #[.val (.int p1), .val (.int p2), .val (.int p3), .val (.ref b1), .val (.int (Int32.ofNat k)), .val (.int (Int32.ofNat r)), .unset, .unset, .unset, .unset] [(.int (Int32.ofNat r))]))
        refine OwnG.go (fun _ kz => XS.iload X_B80.here hx rfl (hb hby at_98) rfl kz) ?_
        show OwnG _ _ _ _ _ _ (T_B80.setTop (mkF m 100 #[.val (.int p1), .val (.int p2), .val (.int p3), .val (.ref b1), .val (.int (Int32.ofNat k)), .val (.int (Int32.ofNat r)), .unset, .unset, .unset, .unset] [(.int (Int32.ofNat k)), (.int (Int32.ofNat r))]))
        by_cases c0 : (Int32.ofNat k) < (Int32.ofNat r)
        · have _u := ()
          refine OwnG.go (fun _ kz => XS.icmpNo X_B80.here hx rfl (hb hby at_100) rfl (tlt c0).2.2.2 kz) ?_
          show OwnG _ _ _ _ _ _ (T_B80.setTop (mkF m 103 #[.val (.int p1), .val (.int p2), .val (.int p3), .val (.ref b1), .val (.int (Int32.ofNat k)), .val (.int (Int32.ofNat r)), .unset, .unset, .unset, .unset] []))
          have hq : k < r := (own_lt (by omega) (by omega)).mp c0
          refine OwnG.go (fun _ kz => XS.iload X_B80.here hx rfl (hb hby at_103) rfl kz) ?_
          show OwnG _ _ _ _ _ _ (T_B80.setTop (mkF m 105 #[.val (.int p1), .val (.int p2), .val (.int p3), .val (.ref b1), .val (.int (Int32.ofNat k)), .val (.int (Int32.ofNat r)), .unset, .unset, .unset, .unset] [(.int (Int32.ofNat k))]))
          refine OwnG.go (fun _ kz => XS.istore X_B80.here hx rfl (hb hby at_105) rfl (l' := #[.val (.int p1), .val (.int p2), .val (.int p3), .val (.ref b1), .val (.int (Int32.ofNat k)), .val (.int (Int32.ofNat k)), .unset, .unset, .unset, .unset]) rfl kz) ?_
          show OwnG _ _ _ _ _ _ (T_B80.setTop (mkF m 107 #[.val (.int p1), .val (.int p2), .val (.int p3), .val (.ref b1), .val (.int (Int32.ofNat k)), .val (.int (Int32.ofNat k)), .unset, .unset, .unset, .unset] []))
          exact B107 k (by omega) (Nat.le_refl _)
        · have _u := ()
          refine OwnG.go (fun _ kz => XS.icmpYes X_B80.here hx rfl (pc0 := 100) (pc' := 107) rfl (hb hby at_100) rfl (flt c0).2.2.2 (by decide) (by decide) kz) ?_
          show OwnG _ _ _ _ _ _ (T_B80.setTop (mkF m 107 #[.val (.int p1), .val (.int p2), .val (.int p3), .val (.ref b1), .val (.int (Int32.ofNat k)), .val (.int (Int32.ofNat r)), .unset, .unset, .unset, .unset] []))
          have hq : ¬ k < r := fun q => c0 ((own_lt (by omega) (by omega)).mpr q)
          exact B107 r hr (by omega)
      by_cases c9 : (2 : Int32) < (Int32.ofNat r0)
      · have _u := ()
        refine OwnG.go (fun _ kz => XS.icmpNo X_B80.here hx rfl (hb hby at_90) rfl (tlt c9).2.2.2 kz) ?_
        show OwnG _ _ _ _ _ _ (T_B80.setTop (mkF m 93 #[.val (.int p1), .val (.int p2), .val (.int p3), .val (.ref b1), .val (.int (Int32.ofNat k)), .val (.int (Int32.ofNat r0)), .unset, .unset, .unset, .unset] []))
        refine OwnG.go (fun _ kz => XS.iconst X_B80.here hx rfl (hb hby at_93) kz) ?_
        show OwnG _ _ _ _ _ _ (T_B80.setTop (mkF m 94 #[.val (.int p1), .val (.int p2), .val (.int p3), .val (.ref b1), .val (.int (Int32.ofNat k)), .val (.int (Int32.ofNat r0)), .unset, .unset, .unset, .unset] [(.int (2 : Int32))]))
        refine OwnG.go (fun _ kz => XS.istore X_B80.here hx rfl (hb hby at_94) rfl (l' := #[.val (.int p1), .val (.int p2), .val (.int p3), .val (.ref b1), .val (.int (Int32.ofNat k)), .val (.int (2 : Int32)), .unset, .unset, .unset, .unset]) rfl kz) ?_
        show OwnG _ _ _ _ _ _ (T_B80.setTop (mkF m 96 #[.val (.int p1), .val (.int p2), .val (.int p3), .val (.ref b1), .val (.int (Int32.ofNat k)), .val (.int (2 : Int32)), .unset, .unset, .unset, .unset] []))
        exact B96 2 (by omega)
      · have _u := ()
        refine OwnG.go (fun _ kz => XS.icmpYes X_B80.here hx rfl (pc0 := 90) (pc' := 96) rfl (hb hby at_90) rfl (flt c9).2.2.2 (by decide) (by decide) kz) ?_
        show OwnG _ _ _ _ _ _ (T_B80.setTop (mkF m 96 #[.val (.int p1), .val (.int p2), .val (.int p3), .val (.ref b1), .val (.int (Int32.ofNat k)), .val (.int (Int32.ofNat r0)), .unset, .unset, .unset, .unset] []))
        have hq : ¬ 2 < r0 := fun q => c9 ((own_lt (i := 2) (j := r0) (by omega) (by omega)).mpr q)
        exact B96 r0 (by omega)
    have B67 : ∀ (T_B67 : State) (Lx : List Loc), Stand p l e room_1 s m #[(.int p1), (.int p2), (.int p3)] below meth c T_B67 Lx 6 38 → OwnS Z T_B67.heap n0 b1 (min k 4) → Fr n0 Lx → OwnG p.tables e below s room_1 (Q0 Z p1 p2 p3 h0 n0) (T_B67.setTop (mkF m 67 #[.val (.int p1), .val (.int p2), .val (.int p3), .val (.ref b1), .val (.int (Int32.ofNat k)), .unset, .unset, .unset, .unset, .unset] [])) := by
      intro T_B67 Lx X_B67 S_B67 N_B67
      show OwnG _ _ _ _ _ _ (T_B67.setTop (mkF m 67 #[.val (.int p1), .val (.int p2), .val (.int p3), .val (.ref b1), .val (.int (Int32.ofNat k)), .unset, .unset, .unset, .unset, .unset] []))
      refine OwnG.go (fun _ kz => XS.iload X_B67.here hx rfl (hb hby at_67) rfl kz) ?_
      show OwnG _ _ _ _ _ _ (T_B67.setTop (mkF m 69 #[.val (.int p1), .val (.int p2), .val (.int p3), .val (.ref b1), .val (.int (Int32.ofNat k)), .unset, .unset, .unset, .unset, .unset] [(.int (Int32.ofNat k))]))
      refine OwnG.go (fun _ kz => XS.iconst X_B67.here hx rfl (hb hby at_69) kz) ?_
      show OwnG _ _ _ _ _ _ (T_B67.setTop (mkF m 70 #[.val (.int p1), .val (.int p2), .val (.int p3), .val (.ref b1), .val (.int (Int32.ofNat k)), .unset, .unset, .unset, .unset, .unset] [(.int (5 : Int32)), (.int (Int32.ofNat k))]))
      by_cases c5 : (Int32.ofNat k) < (5 : Int32)
      · have _u := ()
        refine OwnG.go (fun _ kz => XS.icmpYes X_B67.here hx rfl (pc0 := 70) (pc' := 80) rfl (hb hby at_70) rfl (tlt c5).1 (by decide) (by decide) kz) ?_
        show OwnG _ _ _ _ _ _ (T_B67.setTop (mkF m 80 #[.val (.int p1), .val (.int p2), .val (.int p3), .val (.ref b1), .val (.int (Int32.ofNat k)), .unset, .unset, .unset, .unset, .unset] []))
        have hq : k < 5 := (own_lt (i := k) (j := 5) (by omega) (by omega)).mp c5
        have he : (min k 4) = k := by omega
        exact B80 _ _ (own_stand X_B67 (by decide) (by decide)) (he ▸ S_B67) N_B67
      · have _u := ()
        refine OwnG.go (fun _ kz => XS.icmpNo X_B67.here hx rfl (hb hby at_70) rfl (flt c5).1 kz) ?_
        show OwnG _ _ _ _ _ _ (T_B67.setTop (mkF m 73 #[.val (.int p1), .val (.int p2), .val (.int p3), .val (.ref b1), .val (.int (Int32.ofNat k)), .unset, .unset, .unset, .unset, .unset] []))
        have hq : ¬ k < 5 := fun q => c5 ((own_lt (i := k) (j := 5) (by omega) (by omega)).mpr q)
        have he : (min k 4) + 1 = k := by omega
        refine OwnG.go (fun _ kz => XS.aloadN X_B67.here hx rfl (hb hby at_73) rfl rfl kz) ?_
        show OwnG _ _ _ _ _ _ (T_B67.setTop (mkF m 74 #[.val (.int p1), .val (.int p2), .val (.int p3), .val (.ref b1), .val (.int (Int32.ofNat k)), .unset, .unset, .unset, .unset, .unset] [(.ref b1)]))
        refine OwnG.go (fun _ kz => XS.iloadN X_B67.here hx rfl (hb hby at_74) rfl kz) ?_
        show OwnG _ _ _ _ _ _ (T_B67.setTop (mkF m 75 #[.val (.int p1), .val (.int p2), .val (.int p3), .val (.ref b1), .val (.int (Int32.ofNat k)), .unset, .unset, .unset, .unset, .unset] [(.int p1), (.ref b1)]))
        refine OwnG.go (fun _ kz => XS.iloadN X_B67.here hx rfl (hb hby at_75) rfl kz) ?_
        show OwnG _ _ _ _ _ _ (T_B67.setTop (mkF m 76 #[.val (.int p1), .val (.int p2), .val (.int p3), .val (.ref b1), .val (.int (Int32.ofNat k)), .unset, .unset, .unset, .unset, .unset] [(.int p2), (.int p1), (.ref b1)]))
        refine OwnG.go (fun _ kz => XS.ixor X_B67.here hx rfl (hb hby at_76) rfl kz) ?_
        show OwnG _ _ _ _ _ _ (T_B67.setTop (mkF m 77 #[.val (.int p1), .val (.int p2), .val (.int p3), .val (.ref b1), .val (.int (Int32.ofNat k)), .unset, .unset, .unset, .unset, .unset] [(.int (p1 ^^^ p2)), (.ref b1)]))
        obtain ⟨cq8, kq8, q8a, q8b, q8c⟩ := isOf hZ (rfl : T_B67.heap = T_B67.heap) S_B67.2.2.1
        obtain ⟨_, _, ⟨T8, L8, k8, n8⟩, -, X8, ⟨Lc8, hQ8, l8, y8, z8⟩, st8⟩ := X_B67.virtualBack hx (y := (⟨"com/example/saturate/saturate/ints/IntList", "add", "(I)V"⟩ : MethodName)) (z := (⟨"com/example/saturate/saturate/ints/IntList", "add", "(I)V"⟩ : MethodName)) hown (mvT hZ (hw _ (List.mem_of_getElem? (i := 12) rfl))) (mvT hZ (hw _ (List.mem_of_getElem? (i := 13) rfl))) (notFace_of_selects (args := #[]) (mvT hZ (hw _ (List.mem_of_getElem? (i := 15) rfl)))) (mvT hZ (hw _ (List.mem_of_getElem? (i := 15) rfl))) (mvT hZ (hw _ (List.mem_of_getElem? (i := 14) rfl))) (by decide) (backOf (W := 0) (rm3 l Z a0 hw [] b1 (p1 ^^^ p2) (min k 4) T_B67.heap n0 S_B67.1 S_B67 (by omega)) hZ (hw _ (List.mem_of_getElem? (i := 16) rfl)) (hw _ (List.mem_of_getElem? (i := 2) rfl)) (by decide) (by decide)) q8a q8c (g := (mkF m 77 #[.val (.int p1), .val (.int p2), .val (.int p3), .val (.ref b1), .val (.int (Int32.ofNat k)), .unset, .unset, .unset, .unset, .unset] [(.int (p1 ^^^ p2)), (.ref b1)])) rfl (by rw [hml]; rfl) (Steps.refl _) (argsL := [(.int (p1 ^^^ p2))]) (rest := []) (lenOf pd_3 rfl) rfl (by show 2 * 0 + _ ≤ _; exact Nat.le_of_eq rfl) (hb hby at_77) (fun _ _ => ⟨rfl, (rfl : T_B67.heap = T_B67.heap), (by decide : 6 + 1 ≤ _), (by decide : 38 + 8 ≤ _)⟩)
        dsimp only [Pt.U, Pt.locs, Pt.cells, Pt.slots] at X8 l8 y8 z8 st8 hQ8
        subst l8 y8 z8
        obtain ⟨rfl, N8q, S8⟩ := hQ8
        have N8 := Fr.app N_B67 N8q
        refine OwnG.go (fun tz kz => st8.trans kz) ?_
        show OwnG _ _ _ _ _ _ (T8.setTop (mkF m 80 #[.val (.int p1), .val (.int p2), .val (.int p3), .val (.ref b1), .val (.int (Int32.ofNat k)), .unset, .unset, .unset, .unset, .unset] []))
        exact B80 _ _ X8 (he ▸ S8) N8
    have B56 : ∀ (T_B56 : State) (Lx : List Loc), Stand p l e room_1 s m #[(.int p1), (.int p2), (.int p3)] below meth c T_B56 Lx 5 30 → OwnS Z T_B56.heap n0 b1 (min k 3) → Fr n0 Lx → OwnG p.tables e below s room_1 (Q0 Z p1 p2 p3 h0 n0) (T_B56.setTop (mkF m 56 #[.val (.int p1), .val (.int p2), .val (.int p3), .val (.ref b1), .val (.int (Int32.ofNat k)), .unset, .unset, .unset, .unset, .unset] [])) := by
      intro T_B56 Lx X_B56 S_B56 N_B56
      show OwnG _ _ _ _ _ _ (T_B56.setTop (mkF m 56 #[.val (.int p1), .val (.int p2), .val (.int p3), .val (.ref b1), .val (.int (Int32.ofNat k)), .unset, .unset, .unset, .unset, .unset] []))
      refine OwnG.go (fun _ kz => XS.iload X_B56.here hx rfl (hb hby at_56) rfl kz) ?_
      show OwnG _ _ _ _ _ _ (T_B56.setTop (mkF m 58 #[.val (.int p1), .val (.int p2), .val (.int p3), .val (.ref b1), .val (.int (Int32.ofNat k)), .unset, .unset, .unset, .unset, .unset] [(.int (Int32.ofNat k))]))
      refine OwnG.go (fun _ kz => XS.iconst X_B56.here hx rfl (hb hby at_58) kz) ?_
      show OwnG _ _ _ _ _ _ (T_B56.setTop (mkF m 59 #[.val (.int p1), .val (.int p2), .val (.int p3), .val (.ref b1), .val (.int (Int32.ofNat k)), .unset, .unset, .unset, .unset, .unset] [(.int (4 : Int32)), (.int (Int32.ofNat k))]))
      by_cases c4 : (Int32.ofNat k) < (4 : Int32)
      · have _u := ()
        refine OwnG.go (fun _ kz => XS.icmpYes X_B56.here hx rfl (pc0 := 59) (pc' := 67) rfl (hb hby at_59) rfl (tlt c4).1 (by decide) (by decide) kz) ?_
        show OwnG _ _ _ _ _ _ (T_B56.setTop (mkF m 67 #[.val (.int p1), .val (.int p2), .val (.int p3), .val (.ref b1), .val (.int (Int32.ofNat k)), .unset, .unset, .unset, .unset, .unset] []))
        have hq : k < 4 := (own_lt (i := k) (j := 4) (by omega) (by omega)).mp c4
        have he : (min k 3) = (min k 4) := by omega
        exact B67 _ _ (own_stand X_B56 (by decide) (by decide)) (he ▸ S_B56) N_B56
      · have _u := ()
        refine OwnG.go (fun _ kz => XS.icmpNo X_B56.here hx rfl (hb hby at_59) rfl (flt c4).1 kz) ?_
        show OwnG _ _ _ _ _ _ (T_B56.setTop (mkF m 62 #[.val (.int p1), .val (.int p2), .val (.int p3), .val (.ref b1), .val (.int (Int32.ofNat k)), .unset, .unset, .unset, .unset, .unset] []))
        have hq : ¬ k < 4 := fun q => c4 ((own_lt (i := k) (j := 4) (by omega) (by omega)).mpr q)
        have he : (min k 3) + 1 = (min k 4) := by omega
        refine OwnG.go (fun _ kz => XS.aloadN X_B56.here hx rfl (hb hby at_62) rfl rfl kz) ?_
        show OwnG _ _ _ _ _ _ (T_B56.setTop (mkF m 63 #[.val (.int p1), .val (.int p2), .val (.int p3), .val (.ref b1), .val (.int (Int32.ofNat k)), .unset, .unset, .unset, .unset, .unset] [(.ref b1)]))
        refine OwnG.go (fun _ kz => XS.iloadN X_B56.here hx rfl (hb hby at_63) rfl kz) ?_
        show OwnG _ _ _ _ _ _ (T_B56.setTop (mkF m 64 #[.val (.int p1), .val (.int p2), .val (.int p3), .val (.ref b1), .val (.int (Int32.ofNat k)), .unset, .unset, .unset, .unset, .unset] [(.int p2), (.ref b1)]))
        obtain ⟨cq9, kq9, q9a, q9b, q9c⟩ := isOf hZ (rfl : T_B56.heap = T_B56.heap) S_B56.2.2.1
        obtain ⟨_, _, ⟨T9, L9, k9, n9⟩, -, X9, ⟨Lc9, hQ9, l9, y9, z9⟩, st9⟩ := X_B56.virtualBack hx (y := (⟨"com/example/saturate/saturate/ints/IntList", "add", "(I)V"⟩ : MethodName)) (z := (⟨"com/example/saturate/saturate/ints/IntList", "add", "(I)V"⟩ : MethodName)) hown (mvT hZ (hw _ (List.mem_of_getElem? (i := 12) rfl))) (mvT hZ (hw _ (List.mem_of_getElem? (i := 13) rfl))) (notFace_of_selects (args := #[]) (mvT hZ (hw _ (List.mem_of_getElem? (i := 15) rfl)))) (mvT hZ (hw _ (List.mem_of_getElem? (i := 15) rfl))) (mvT hZ (hw _ (List.mem_of_getElem? (i := 14) rfl))) (by decide) (backOf (W := 0) (rm3 l Z a0 hw [] b1 p2 (min k 3) T_B56.heap n0 S_B56.1 S_B56 (by omega)) hZ (hw _ (List.mem_of_getElem? (i := 16) rfl)) (hw _ (List.mem_of_getElem? (i := 2) rfl)) (by decide) (by decide)) q9a q9c (g := (mkF m 64 #[.val (.int p1), .val (.int p2), .val (.int p3), .val (.ref b1), .val (.int (Int32.ofNat k)), .unset, .unset, .unset, .unset, .unset] [(.int p2), (.ref b1)])) rfl (by rw [hml]; rfl) (Steps.refl _) (argsL := [(.int p2)]) (rest := []) (lenOf pd_3 rfl) rfl (by show 2 * 0 + _ ≤ _; exact Nat.le_of_eq rfl) (hb hby at_64) (fun _ _ => ⟨rfl, (rfl : T_B56.heap = T_B56.heap), (by decide : 5 + 1 ≤ _), (by decide : 30 + 8 ≤ _)⟩)
        dsimp only [Pt.U, Pt.locs, Pt.cells, Pt.slots] at X9 l9 y9 z9 st9 hQ9
        subst l9 y9 z9
        obtain ⟨rfl, N9q, S9⟩ := hQ9
        have N9 := Fr.app N_B56 N9q
        refine OwnG.go (fun tz kz => st9.trans kz) ?_
        show OwnG _ _ _ _ _ _ (T9.setTop (mkF m 67 #[.val (.int p1), .val (.int p2), .val (.int p3), .val (.ref b1), .val (.int (Int32.ofNat k)), .unset, .unset, .unset, .unset, .unset] []))
        exact B67 _ _ X9 (he ▸ S9) N9
    have B45 : ∀ (T_B45 : State) (Lx : List Loc), Stand p l e room_1 s m #[(.int p1), (.int p2), (.int p3)] below meth c T_B45 Lx 4 22 → OwnS Z T_B45.heap n0 b1 (min k 2) → Fr n0 Lx → OwnG p.tables e below s room_1 (Q0 Z p1 p2 p3 h0 n0) (T_B45.setTop (mkF m 45 #[.val (.int p1), .val (.int p2), .val (.int p3), .val (.ref b1), .val (.int (Int32.ofNat k)), .unset, .unset, .unset, .unset, .unset] [])) := by
      intro T_B45 Lx X_B45 S_B45 N_B45
      show OwnG _ _ _ _ _ _ (T_B45.setTop (mkF m 45 #[.val (.int p1), .val (.int p2), .val (.int p3), .val (.ref b1), .val (.int (Int32.ofNat k)), .unset, .unset, .unset, .unset, .unset] []))
      refine OwnG.go (fun _ kz => XS.iload X_B45.here hx rfl (hb hby at_45) rfl kz) ?_
      show OwnG _ _ _ _ _ _ (T_B45.setTop (mkF m 47 #[.val (.int p1), .val (.int p2), .val (.int p3), .val (.ref b1), .val (.int (Int32.ofNat k)), .unset, .unset, .unset, .unset, .unset] [(.int (Int32.ofNat k))]))
      refine OwnG.go (fun _ kz => XS.iconst X_B45.here hx rfl (hb hby at_47) kz) ?_
      show OwnG _ _ _ _ _ _ (T_B45.setTop (mkF m 48 #[.val (.int p1), .val (.int p2), .val (.int p3), .val (.ref b1), .val (.int (Int32.ofNat k)), .unset, .unset, .unset, .unset, .unset] [(.int (3 : Int32)), (.int (Int32.ofNat k))]))
      by_cases c3 : (Int32.ofNat k) < (3 : Int32)
      · have _u := ()
        refine OwnG.go (fun _ kz => XS.icmpYes X_B45.here hx rfl (pc0 := 48) (pc' := 56) rfl (hb hby at_48) rfl (tlt c3).1 (by decide) (by decide) kz) ?_
        show OwnG _ _ _ _ _ _ (T_B45.setTop (mkF m 56 #[.val (.int p1), .val (.int p2), .val (.int p3), .val (.ref b1), .val (.int (Int32.ofNat k)), .unset, .unset, .unset, .unset, .unset] []))
        have hq : k < 3 := (own_lt (i := k) (j := 3) (by omega) (by omega)).mp c3
        have he : (min k 2) = (min k 3) := by omega
        exact B56 _ _ (own_stand X_B45 (by decide) (by decide)) (he ▸ S_B45) N_B45
      · have _u := ()
        refine OwnG.go (fun _ kz => XS.icmpNo X_B45.here hx rfl (hb hby at_48) rfl (flt c3).1 kz) ?_
        show OwnG _ _ _ _ _ _ (T_B45.setTop (mkF m 51 #[.val (.int p1), .val (.int p2), .val (.int p3), .val (.ref b1), .val (.int (Int32.ofNat k)), .unset, .unset, .unset, .unset, .unset] []))
        have hq : ¬ k < 3 := fun q => c3 ((own_lt (i := k) (j := 3) (by omega) (by omega)).mpr q)
        have he : (min k 2) + 1 = (min k 3) := by omega
        refine OwnG.go (fun _ kz => XS.aloadN X_B45.here hx rfl (hb hby at_51) rfl rfl kz) ?_
        show OwnG _ _ _ _ _ _ (T_B45.setTop (mkF m 52 #[.val (.int p1), .val (.int p2), .val (.int p3), .val (.ref b1), .val (.int (Int32.ofNat k)), .unset, .unset, .unset, .unset, .unset] [(.ref b1)]))
        refine OwnG.go (fun _ kz => XS.iloadN X_B45.here hx rfl (hb hby at_52) rfl kz) ?_
        show OwnG _ _ _ _ _ _ (T_B45.setTop (mkF m 53 #[.val (.int p1), .val (.int p2), .val (.int p3), .val (.ref b1), .val (.int (Int32.ofNat k)), .unset, .unset, .unset, .unset, .unset] [(.int p1), (.ref b1)]))
        obtain ⟨cq10, kq10, q10a, q10b, q10c⟩ := isOf hZ (rfl : T_B45.heap = T_B45.heap) S_B45.2.2.1
        obtain ⟨_, _, ⟨T10, L10, k10, n10⟩, -, X10, ⟨Lc10, hQ10, l10, y10, z10⟩, st10⟩ := X_B45.virtualBack hx (y := (⟨"com/example/saturate/saturate/ints/IntList", "add", "(I)V"⟩ : MethodName)) (z := (⟨"com/example/saturate/saturate/ints/IntList", "add", "(I)V"⟩ : MethodName)) hown (mvT hZ (hw _ (List.mem_of_getElem? (i := 12) rfl))) (mvT hZ (hw _ (List.mem_of_getElem? (i := 13) rfl))) (notFace_of_selects (args := #[]) (mvT hZ (hw _ (List.mem_of_getElem? (i := 15) rfl)))) (mvT hZ (hw _ (List.mem_of_getElem? (i := 15) rfl))) (mvT hZ (hw _ (List.mem_of_getElem? (i := 14) rfl))) (by decide) (backOf (W := 0) (rm3 l Z a0 hw [] b1 p1 (min k 2) T_B45.heap n0 S_B45.1 S_B45 (by omega)) hZ (hw _ (List.mem_of_getElem? (i := 16) rfl)) (hw _ (List.mem_of_getElem? (i := 2) rfl)) (by decide) (by decide)) q10a q10c (g := (mkF m 53 #[.val (.int p1), .val (.int p2), .val (.int p3), .val (.ref b1), .val (.int (Int32.ofNat k)), .unset, .unset, .unset, .unset, .unset] [(.int p1), (.ref b1)])) rfl (by rw [hml]; rfl) (Steps.refl _) (argsL := [(.int p1)]) (rest := []) (lenOf pd_3 rfl) rfl (by show 2 * 0 + _ ≤ _; exact Nat.le_of_eq rfl) (hb hby at_53) (fun _ _ => ⟨rfl, (rfl : T_B45.heap = T_B45.heap), (by decide : 4 + 1 ≤ _), (by decide : 22 + 8 ≤ _)⟩)
        dsimp only [Pt.U, Pt.locs, Pt.cells, Pt.slots] at X10 l10 y10 z10 st10 hQ10
        subst l10 y10 z10
        obtain ⟨rfl, N10q, S10⟩ := hQ10
        have N10 := Fr.app N_B45 N10q
        refine OwnG.go (fun tz kz => st10.trans kz) ?_
        show OwnG _ _ _ _ _ _ (T10.setTop (mkF m 56 #[.val (.int p1), .val (.int p2), .val (.int p3), .val (.ref b1), .val (.int (Int32.ofNat k)), .unset, .unset, .unset, .unset, .unset] []))
        exact B56 _ _ X10 (he ▸ S10) N10
    have B34 : ∀ (T_B34 : State) (Lx : List Loc), Stand p l e room_1 s m #[(.int p1), (.int p2), (.int p3)] below meth c T_B34 Lx 3 14 → OwnS Z T_B34.heap n0 b1 (min k 1) → Fr n0 Lx → OwnG p.tables e below s room_1 (Q0 Z p1 p2 p3 h0 n0) (T_B34.setTop (mkF m 34 #[.val (.int p1), .val (.int p2), .val (.int p3), .val (.ref b1), .val (.int (Int32.ofNat k)), .unset, .unset, .unset, .unset, .unset] [])) := by
      intro T_B34 Lx X_B34 S_B34 N_B34
      show OwnG _ _ _ _ _ _ (T_B34.setTop (mkF m 34 #[.val (.int p1), .val (.int p2), .val (.int p3), .val (.ref b1), .val (.int (Int32.ofNat k)), .unset, .unset, .unset, .unset, .unset] []))
      refine OwnG.go (fun _ kz => XS.iload X_B34.here hx rfl (hb hby at_34) rfl kz) ?_
      show OwnG _ _ _ _ _ _ (T_B34.setTop (mkF m 36 #[.val (.int p1), .val (.int p2), .val (.int p3), .val (.ref b1), .val (.int (Int32.ofNat k)), .unset, .unset, .unset, .unset, .unset] [(.int (Int32.ofNat k))]))
      refine OwnG.go (fun _ kz => XS.iconst X_B34.here hx rfl (hb hby at_36) kz) ?_
      show OwnG _ _ _ _ _ _ (T_B34.setTop (mkF m 37 #[.val (.int p1), .val (.int p2), .val (.int p3), .val (.ref b1), .val (.int (Int32.ofNat k)), .unset, .unset, .unset, .unset, .unset] [(.int (2 : Int32)), (.int (Int32.ofNat k))]))
      by_cases c2 : (Int32.ofNat k) < (2 : Int32)
      · have _u := ()
        refine OwnG.go (fun _ kz => XS.icmpYes X_B34.here hx rfl (pc0 := 37) (pc' := 45) rfl (hb hby at_37) rfl (tlt c2).1 (by decide) (by decide) kz) ?_
        show OwnG _ _ _ _ _ _ (T_B34.setTop (mkF m 45 #[.val (.int p1), .val (.int p2), .val (.int p3), .val (.ref b1), .val (.int (Int32.ofNat k)), .unset, .unset, .unset, .unset, .unset] []))
        have hq : k < 2 := (own_lt (i := k) (j := 2) (by omega) (by omega)).mp c2
        have he : (min k 1) = (min k 2) := by omega
        exact B45 _ _ (own_stand X_B34 (by decide) (by decide)) (he ▸ S_B34) N_B34
      · have _u := ()
        refine OwnG.go (fun _ kz => XS.icmpNo X_B34.here hx rfl (hb hby at_37) rfl (flt c2).1 kz) ?_
        show OwnG _ _ _ _ _ _ (T_B34.setTop (mkF m 40 #[.val (.int p1), .val (.int p2), .val (.int p3), .val (.ref b1), .val (.int (Int32.ofNat k)), .unset, .unset, .unset, .unset, .unset] []))
        have hq : ¬ k < 2 := fun q => c2 ((own_lt (i := k) (j := 2) (by omega) (by omega)).mpr q)
        have he : (min k 1) + 1 = (min k 2) := by omega
        refine OwnG.go (fun _ kz => XS.aloadN X_B34.here hx rfl (hb hby at_40) rfl rfl kz) ?_
        show OwnG _ _ _ _ _ _ (T_B34.setTop (mkF m 41 #[.val (.int p1), .val (.int p2), .val (.int p3), .val (.ref b1), .val (.int (Int32.ofNat k)), .unset, .unset, .unset, .unset, .unset] [(.ref b1)]))
        refine OwnG.go (fun _ kz => XS.iloadN X_B34.here hx rfl (hb hby at_41) rfl kz) ?_
        show OwnG _ _ _ _ _ _ (T_B34.setTop (mkF m 42 #[.val (.int p1), .val (.int p2), .val (.int p3), .val (.ref b1), .val (.int (Int32.ofNat k)), .unset, .unset, .unset, .unset, .unset] [(.int p2), (.ref b1)]))
        obtain ⟨cq11, kq11, q11a, q11b, q11c⟩ := isOf hZ (rfl : T_B34.heap = T_B34.heap) S_B34.2.2.1
        obtain ⟨_, _, ⟨T11, L11, k11, n11⟩, -, X11, ⟨Lc11, hQ11, l11, y11, z11⟩, st11⟩ := X_B34.virtualBack hx (y := (⟨"com/example/saturate/saturate/ints/IntList", "add", "(I)V"⟩ : MethodName)) (z := (⟨"com/example/saturate/saturate/ints/IntList", "add", "(I)V"⟩ : MethodName)) hown (mvT hZ (hw _ (List.mem_of_getElem? (i := 12) rfl))) (mvT hZ (hw _ (List.mem_of_getElem? (i := 13) rfl))) (notFace_of_selects (args := #[]) (mvT hZ (hw _ (List.mem_of_getElem? (i := 15) rfl)))) (mvT hZ (hw _ (List.mem_of_getElem? (i := 15) rfl))) (mvT hZ (hw _ (List.mem_of_getElem? (i := 14) rfl))) (by decide) (backOf (W := 0) (rm3 l Z a0 hw [] b1 p2 (min k 1) T_B34.heap n0 S_B34.1 S_B34 (by omega)) hZ (hw _ (List.mem_of_getElem? (i := 16) rfl)) (hw _ (List.mem_of_getElem? (i := 2) rfl)) (by decide) (by decide)) q11a q11c (g := (mkF m 42 #[.val (.int p1), .val (.int p2), .val (.int p3), .val (.ref b1), .val (.int (Int32.ofNat k)), .unset, .unset, .unset, .unset, .unset] [(.int p2), (.ref b1)])) rfl (by rw [hml]; rfl) (Steps.refl _) (argsL := [(.int p2)]) (rest := []) (lenOf pd_3 rfl) rfl (by show 2 * 0 + _ ≤ _; exact Nat.le_of_eq rfl) (hb hby at_42) (fun _ _ => ⟨rfl, (rfl : T_B34.heap = T_B34.heap), (by decide : 3 + 1 ≤ _), (by decide : 14 + 8 ≤ _)⟩)
        dsimp only [Pt.U, Pt.locs, Pt.cells, Pt.slots] at X11 l11 y11 z11 st11 hQ11
        subst l11 y11 z11
        obtain ⟨rfl, N11q, S11⟩ := hQ11
        have N11 := Fr.app N_B34 N11q
        refine OwnG.go (fun tz kz => st11.trans kz) ?_
        show OwnG _ _ _ _ _ _ (T11.setTop (mkF m 45 #[.val (.int p1), .val (.int p2), .val (.int p3), .val (.ref b1), .val (.int (Int32.ofNat k)), .unset, .unset, .unset, .unset, .unset] []))
        exact B45 _ _ X11 (he ▸ S11) N11
    show OwnG _ _ _ _ _ _ (T2.setTop (mkF m 23 #[.val (.int p1), .val (.int p2), .val (.int p3), .val (.ref b1), .val (.int (Int32.ofNat k)), .unset, .unset, .unset, .unset, .unset] []))
    refine OwnG.go (fun _ kz => XS.iload X2.here hx rfl (hb hby at_23) rfl kz) ?_
    show OwnG _ _ _ _ _ _ (T2.setTop (mkF m 25 #[.val (.int p1), .val (.int p2), .val (.int p3), .val (.ref b1), .val (.int (Int32.ofNat k)), .unset, .unset, .unset, .unset, .unset] [(.int (Int32.ofNat k))]))
    refine OwnG.go (fun _ kz => XS.iconst X2.here hx rfl (hb hby at_25) kz) ?_
    show OwnG _ _ _ _ _ _ (T2.setTop (mkF m 26 #[.val (.int p1), .val (.int p2), .val (.int p3), .val (.ref b1), .val (.int (Int32.ofNat k)), .unset, .unset, .unset, .unset, .unset] [(.int (1 : Int32)), (.int (Int32.ofNat k))]))
    by_cases c1 : (Int32.ofNat k) < (1 : Int32)
    · have _u := ()
      refine OwnG.go (fun _ kz => XS.icmpYes X2.here hx rfl (pc0 := 26) (pc' := 34) rfl (hb hby at_26) rfl (tlt c1).1 (by decide) (by decide) kz) ?_
      show OwnG _ _ _ _ _ _ (T2.setTop (mkF m 34 #[.val (.int p1), .val (.int p2), .val (.int p3), .val (.ref b1), .val (.int (Int32.ofNat k)), .unset, .unset, .unset, .unset, .unset] []))
      have hq : k < 1 := (own_lt (i := k) (j := 1) (by omega) (by omega)).mp c1
      have he : 0 = (min k 1) := by omega
      exact B34 _ _ (own_stand X2 (by decide) (by decide)) (he ▸ Sz) N2
    · have _u := ()
      refine OwnG.go (fun _ kz => XS.icmpNo X2.here hx rfl (hb hby at_26) rfl (flt c1).1 kz) ?_
      show OwnG _ _ _ _ _ _ (T2.setTop (mkF m 29 #[.val (.int p1), .val (.int p2), .val (.int p3), .val (.ref b1), .val (.int (Int32.ofNat k)), .unset, .unset, .unset, .unset, .unset] []))
      have hq : ¬ k < 1 := fun q => c1 ((own_lt (i := k) (j := 1) (by omega) (by omega)).mpr q)
      have he : 0 + 1 = (min k 1) := by omega
      refine OwnG.go (fun _ kz => XS.aloadN X2.here hx rfl (hb hby at_29) rfl rfl kz) ?_
      show OwnG _ _ _ _ _ _ (T2.setTop (mkF m 30 #[.val (.int p1), .val (.int p2), .val (.int p3), .val (.ref b1), .val (.int (Int32.ofNat k)), .unset, .unset, .unset, .unset, .unset] [(.ref b1)]))
      refine OwnG.go (fun _ kz => XS.iloadN X2.here hx rfl (hb hby at_30) rfl kz) ?_
      show OwnG _ _ _ _ _ _ (T2.setTop (mkF m 31 #[.val (.int p1), .val (.int p2), .val (.int p3), .val (.ref b1), .val (.int (Int32.ofNat k)), .unset, .unset, .unset, .unset, .unset] [(.int p1), (.ref b1)]))
      obtain ⟨cq12, kq12, q12a, q12b, q12c⟩ := isOf hZ (rfl : T2.heap = T2.heap) Sz.2.2.1
      obtain ⟨_, _, ⟨T12, L12, k12, n12⟩, -, X12, ⟨Lc12, hQ12, l12, y12, z12⟩, st12⟩ := X2.virtualBack hx (y := (⟨"com/example/saturate/saturate/ints/IntList", "add", "(I)V"⟩ : MethodName)) (z := (⟨"com/example/saturate/saturate/ints/IntList", "add", "(I)V"⟩ : MethodName)) hown (mvT hZ (hw _ (List.mem_of_getElem? (i := 12) rfl))) (mvT hZ (hw _ (List.mem_of_getElem? (i := 13) rfl))) (notFace_of_selects (args := #[]) (mvT hZ (hw _ (List.mem_of_getElem? (i := 15) rfl)))) (mvT hZ (hw _ (List.mem_of_getElem? (i := 15) rfl))) (mvT hZ (hw _ (List.mem_of_getElem? (i := 14) rfl))) (by decide) (backOf (W := 0) (rm3 l Z a0 hw [] b1 p1 0 T2.heap n0 Sz.1 Sz (by omega)) hZ (hw _ (List.mem_of_getElem? (i := 16) rfl)) (hw _ (List.mem_of_getElem? (i := 2) rfl)) (by decide) (by decide)) q12a q12c (g := (mkF m 31 #[.val (.int p1), .val (.int p2), .val (.int p3), .val (.ref b1), .val (.int (Int32.ofNat k)), .unset, .unset, .unset, .unset, .unset] [(.int p1), (.ref b1)])) rfl (by rw [hml]; rfl) (Steps.refl _) (argsL := [(.int p1)]) (rest := []) (lenOf pd_3 rfl) rfl (by show 2 * 0 + _ ≤ _; exact Nat.le_of_eq rfl) (hb hby at_31) (fun _ _ => ⟨rfl, (rfl : T2.heap = T2.heap), (by decide : 2 + 1 ≤ _), (by decide : 6 + 8 ≤ _)⟩)
      dsimp only [Pt.U, Pt.locs, Pt.cells, Pt.slots] at X12 l12 y12 z12 st12 hQ12
      subst l12 y12 z12
      obtain ⟨rfl, N12q, S12⟩ := hQ12
      have N12 := Fr.app N2 N12q
      refine OwnG.go (fun tz kz => st12.trans kz) ?_
      show OwnG _ _ _ _ _ _ (T12.setTop (mkF m 34 #[.val (.int p1), .val (.int p2), .val (.int p3), .val (.ref b1), .val (.int (Int32.ofNat k)), .unset, .unset, .unset, .unset, .unset] []))
      exact B34 _ _ X12 (he ▸ S12) N12
  by_cases c8 : (5 : Int32) < (Int32.ofNat k0)
  · have _u := ()
    refine OwnG.go (fun _ kz => XS.icmpNo X2.here hx rfl (hb hby at_17) rfl (tlt c8).2.2.2 kz) ?_
    show OwnG _ _ _ _ _ _ (T2.setTop (mkF m 20 #[.val (.int p1), .val (.int p2), .val (.int p3), .val (.ref b1), .val (.int (Int32.ofNat k0)), .unset, .unset, .unset, .unset, .unset] []))
    refine OwnG.go (fun _ kz => XS.iconst X2.here hx rfl (hb hby at_20) kz) ?_
    show OwnG _ _ _ _ _ _ (T2.setTop (mkF m 21 #[.val (.int p1), .val (.int p2), .val (.int p3), .val (.ref b1), .val (.int (Int32.ofNat k0)), .unset, .unset, .unset, .unset, .unset] [(.int (5 : Int32))]))
    refine OwnG.go (fun _ kz => XS.istore X2.here hx rfl (hb hby at_21) rfl (l' := #[.val (.int p1), .val (.int p2), .val (.int p3), .val (.ref b1), .val (.int (5 : Int32)), .unset, .unset, .unset, .unset, .unset]) rfl kz) ?_
    show OwnG _ _ _ _ _ _ (T2.setTop (mkF m 23 #[.val (.int p1), .val (.int p2), .val (.int p3), .val (.ref b1), .val (.int (5 : Int32)), .unset, .unset, .unset, .unset, .unset] []))
    exact B23 5 (by omega)
  · have _u := ()
    refine OwnG.go (fun _ kz => XS.icmpYes X2.here hx rfl (pc0 := 17) (pc' := 23) rfl (hb hby at_17) rfl (flt c8).2.2.2 (by decide) (by decide) kz) ?_
    show OwnG _ _ _ _ _ _ (T2.setTop (mkF m 23 #[.val (.int p1), .val (.int p2), .val (.int p3), .val (.ref b1), .val (.int (Int32.ofNat k0)), .unset, .unset, .unset, .unset, .unset] []))
    have hq : ¬ 5 < k0 := fun q => c8 ((own_lt (i := 5) (j := k0) (by omega) (by omega)).mpr q)
    exact B23 k0 (by omega)
set_option maxRecDepth 65536 in
set_option maxHeartbeats 40000000 in
theorem comes_1 {Post : Tables → Env → Array Value → State → Outcome → State → Prop} (hpost : ∀ tb e args s v u, (limb_1_1.after args s (.returned v) u = true ∧ limb_1_2.after args s (.returned v) u = true ∧ True) → FrameEnd s (.returned v) u (Jvm.fieldLocs frame_1_writes args s ++ Jvm.arrayLocs frame_1_arrays args s ++ Jvm.staticLocs frame_1_statics s) 16 128 → Post tb e args s (.returned v) u) :
    ArmFor flags0 classFile x code maxLocals ret World_1 tables_1 room_1 Calls_1 rest_1 Pre_1 Post := by
  intro l hfl _ _ p e ha hc hk s m args below hf hA hF happ hP
  obtain ⟨hcalls, hrest, hpre⟩ := hP
  obtain ⟨-, -, -, hnamed, -, -, -, hat⟩ := (Spec.applies_iff hf).mp happ
  obtain ⟨hg, hn⟩ := and_e (Cond.before_iff.mp (show (Jvm.Cond.and given_1 narrow_1).before args s = true from hpre))
  obtain ⟨g0, gr0⟩ := and_e hg
  obtain ⟨ga0, gr1⟩ := and_e gr0
  obtain ⟨ga1, gr2⟩ := and_e gr1
  obtain ⟨w0, w1, w2, rfl⟩ : ∃ w0 w1 w2 : Value, args = #[w0, w1, w2] := by
    have hs : args.size = 3 := by simpa [Cond.value, given_1] using g0
    obtain ⟨L⟩ := args
    match L, hs with
    | [w0, w1, w2], _ => exact ⟨w0, w1, w2, rfl⟩
  have hw := fun d (hd : d ∈ tables_1) => atoms_spec (ws := Jvm.Cond.code x code maxLocals ret :: tables_1) hat d (List.mem_cons_of_mem _ hd)
  obtain ⟨i0, ei0⟩ := is_v ga0
  obtain rfl : w0 = (.int i0) := Option.some.inj ei0
  obtain ⟨i1, ei1⟩ := is_v ga1
  obtain rfl : w1 = (.int i1) := Option.some.inj ei1
  obtain ⟨i2, ei2⟩ := is_v gr2
  obtain rfl : w2 = (.int i2) := Option.some.inj ei2
  obtain ⟨n, o, h1, h2, h3, _, L, rfl, ⟨rfl, N⟩, hq⟩ := rm0 l s _ hw tables_1 i0 i1 i2 s.heap s.heap.size (Nat.le_refl _) p e ha hc hk s m _ below hf ((Spec.applies_iff_loose hf).mp happ).1 ⟨rfl, State.Warmed39.refl s, rfl⟩ trivial
  refine ⟨n, _, h1, h2, h3, hpost _ _ _ _ _ _ ⟨Cond.after_iff.mpr rfl, Cond.after_iff.mpr (eq_i res_at (Term.int_eval (1)) rfl), trivial⟩ ⟨hq.1, hq.2.1, (hq.2.2.sift fun y hy => Or.inr (N y hy)).mono (by decide) (by decide)⟩⟩
theorem main_1_1 : Claimed_1_1 := comes_1 fun _ _ _ _ _ _ h hF => ⟨h.1, hF⟩
theorem main_1_2 : Claimed_1_2 := comes_1 fun _ _ _ _ _ _ h hF => ⟨h.2.1, hF⟩
end Jvm.Pilot.@@N@@
namespace Jvm.Pilot.@@N@@
open Jvm Jvm.ClassFile Sem Op Lib Jvm.Free Jvm.Stand Jvm.Pilot.@@N@@.Jvm.D
/-! MADE BY PROGRAM (witnessworld.py) out of the Statement's table words and the real class files: 12 classes; the members and pool entries that the words name. The judged class is class 1, her method 1. -/
namespace start1
open Jvm.ClassFile
def u (s : String) : CpInfo := .utf8 (stringToUtf16 s)
/-- a pool by its gaps: so many unusable entries, then the entry; so many at the end -/
def gap : Nat → List CpInfo → List CpInfo
  | 0, r => r
  | n + 1, r => .unusable :: gap n r
def poolList (es : List (Nat × CpInfo)) (last : Nat) : List CpInfo := es.foldr (fun e r => gap e.1 (e.2 :: r)) (gap last [])
def pool (es : List (Nat × CpInfo)) (last : Nat) : Array CpInfo := ⟨poolList es last⟩
def fileOf (pool : Array CpInfo) (this : Nat) (attrs : Array Attribute := #[]) (ms : Array MethodInfo := #[]) (fl : Nat := 33) (sup : Nat := 0) (ifs : Array Nat := #[]) (fds : Array FieldInfo := #[]) : ClassFile where
  minorVersion := 0
  majorVersion := 65
  constantPool := pool
  accessFlags := fl
  thisClass := this
  superClass := sup
  interfaces := ifs
  fields := fds
  methods := ms
  attributes := attrs
def plain (name : String) (sup : Option ClassId) : Class where
  name := name
  kind := .ordinary
  loader := none
  accessFlags := 33
  super := sup
  interfaces := #[]
  cf := none
  fields := #[]
  methods := #[]
  instanceTypes := #[]
  staticTypes := #[]
  resolved := #[]
  callSites := []
  init := .initialized
  statics := none
  mirror := none

def pool0 : Array CpInfo := pool [(5, u "<init>"), (0, u "()V"), (1, .class_ 10), (1, u "java/lang/Object")] 113

def k0c0 : Code := { maxStack := 0, maxLocals := 1, code := object_method_1_code, exceptionTable := #[], attributes := #[] }
def k0m0 : Method := { name := "<init>", desc := "()V", sig := { parameters := [], returnType := none }, accessFlags := 1, code := some k0c0 }
/-- java/lang/Object -/
def k0 : Class := { plain "java/lang/Object" none with
  accessFlags := 33
  interfaces := #[]
  cf := some (fileOf pool0 8 #[] #[{ accessFlags := 1, nameIndex := 5, descriptorIndex := 6, attributes := #[] }] 33 0 #[] #[])
  fields := #[]
  methods := #[k0m0]
  instanceTypes := #[]
  staticTypes := #[]
  resolved := Array.replicate 124 none
  statics := none }

def pool1 : Array CpInfo := pool [(2, .class_ 4), (0, .nameAndType 5 6), (0, u "java/lang/Object"), (0, u "<init>"), (0, u "()V"), (0, .class_ 8), (0, u "com/example/saturate/saturate/ints/IntList"), (0, .methodref 7 3), (0, .methodref 7 11), (0, .nameAndType 12 13), (0, u "add"), (0, u "(I)V"), (0, .methodref 7 15), (0, .nameAndType 16 17), (0, u "removeLast"), (0, u "()I"), (0, .methodref 7 19), (0, .nameAndType 20 21), (0, u "isEmpty"), (0, u "()Z"), (0, .methodref 7 23), (0, .nameAndType 24 6), (0, u "clear"), (0, .class_ 26), (0, u "com/example/saturate/saturate/ints/IntListIsEmptyPinLaw"), (2, u "law"), (0, u "(III)Z")] 3

def k1m0 : Method := { name := "<init>", desc := "()V", sig := { parameters := [], returnType := none }, accessFlags := 1, code := none }
def k1c1 : Code := { maxStack := 3, maxLocals := 10, code := code, exceptionTable := #[], attributes := #[] }
def k1m1 : Method := { name := "law", desc := "(III)Z", sig := { parameters := [.int, .int, .int], returnType := some .boolean }, accessFlags := 9, code := some k1c1 }
/-- com/example/saturate/saturate/ints/IntListIsEmptyPinLaw -/
def k1 : Class := { plain "com/example/saturate/saturate/ints/IntListIsEmptyPinLaw" (some 0) with
  accessFlags := 49
  interfaces := #[]
  cf := some (fileOf pool1 25 #[] #[{ accessFlags := 1, nameIndex := 5, descriptorIndex := 6, attributes := #[] }, { accessFlags := 9, nameIndex := 29, descriptorIndex := 30, attributes := #[] }] 49 2 #[] #[])
  fields := #[]
  methods := #[k1m0, k1m1]
  instanceTypes := #[]
  staticTypes := #[]
  resolved := Array.replicate 34 none
  statics := none }

def pool2 : Array CpInfo := pool [(1, .methodref 2 3), (0, .class_ 4), (0, .nameAndType 5 6), (0, u "java/lang/Object"), (0, u "<init>"), (0, u "()V"), (0, .fieldref 8 9), (0, .class_ 10), (0, .nameAndType 11 12), (0, u "com/example/saturate/saturate/ints/IntList"), (0, u "items"), (0, u "[I"), (0, .fieldref 8 14), (0, .nameAndType 15 16), (0, u "size"), (0, u "I"), (0, .methodref 18 19), (0, .class_ 20), (0, .nameAndType 21 22), (0, u "java/util/Arrays"), (0, u "copyOf"), (0, u "([II)[I"), (15, u "add"), (0, u "(I)V"), (3, u "removeLast"), (0, u "()I"), (0, u "clear"), (0, u "isEmpty"), (0, u "()Z")] 2

def k2c0 : Code := { maxStack := 2, maxLocals := 1, code := prog_4_method_1_code, exceptionTable := #[], attributes := #[] }
def k2m0 : Method := { name := "<init>", desc := "()V", sig := { parameters := [], returnType := none }, accessFlags := 1, code := some k2c0 }
def k2c1 : Code := { maxStack := 5, maxLocals := 2, code := prog_4_method_2_code, exceptionTable := #[], attributes := #[] }
def k2m1 : Method := { name := "add", desc := "(I)V", sig := { parameters := [.int], returnType := none }, accessFlags := 1, code := some k2c1 }
def k2c2 : Code := { maxStack := 4, maxLocals := 1, code := prog_4_method_4_code, exceptionTable := #[], attributes := #[] }
def k2m2 : Method := { name := "removeLast", desc := "()I", sig := { parameters := [], returnType := some .int }, accessFlags := 1, code := some k2c2 }
def k2c3 : Code := { maxStack := 2, maxLocals := 1, code := prog_4_method_5_code, exceptionTable := #[], attributes := #[] }
def k2m3 : Method := { name := "clear", desc := "()V", sig := { parameters := [], returnType := none }, accessFlags := 1, code := some k2c3 }
def k2c4 : Code := { maxStack := 1, maxLocals := 1, code := prog_4_method_7_code, exceptionTable := #[], attributes := #[] }
def k2m4 : Method := { name := "isEmpty", desc := "()Z", sig := { parameters := [], returnType := some .boolean }, accessFlags := 1, code := some k2c4 }
/-- com/example/saturate/saturate/ints/IntList -/
def k2 : Class := { plain "com/example/saturate/saturate/ints/IntList" (some 0) with
  accessFlags := 49
  interfaces := #[]
  cf := some (fileOf pool2 8 #[] #[{ accessFlags := 1, nameIndex := 5, descriptorIndex := 6, attributes := #[] }, { accessFlags := 1, nameIndex := 38, descriptorIndex := 39, attributes := #[] }, { accessFlags := 1, nameIndex := 43, descriptorIndex := 44, attributes := #[] }, { accessFlags := 1, nameIndex := 45, descriptorIndex := 6, attributes := #[] }, { accessFlags := 1, nameIndex := 46, descriptorIndex := 47, attributes := #[] }] 49 2 #[] #[{ accessFlags := 2, nameIndex := 11, descriptorIndex := 12, attributes := #[] }, { accessFlags := 2, nameIndex := 15, descriptorIndex := 16, attributes := #[] }])
  fields := #[{ name := "items", type := (.array .int), accessFlags := 2, slot := 0, constantValue := 0 }, { name := "size", type := .int, accessFlags := 2, slot := 1, constantValue := 0 }]
  methods := #[k2m0, k2m1, k2m2, k2m3, k2m4]
  instanceTypes := #[(.array .int), .int]
  staticTypes := #[]
  resolved := Array.replicate 50 none
  statics := none }

def pool3 : Array CpInfo := pool [(2, .class_ 4), (1, u "java/lang/Object"), (0, u "<init>"), (0, u "()V"), (7, .class_ 16), (1, u "java/util/Arrays"), (57, .class_ 76), (1, u "java/util/Arrays$NaturalOrder"), (36, .class_ 115), (1, u "java/util/Arrays$LegacyMergeSort"), (1, u "Z"), (32, .methodref 151 152), (0, .class_ 153), (0, .nameAndType 154 155), (0, u "java/lang/System"), (0, u "arraycopy"), (0, u "(Ljava/lang/Object;ILjava/lang/Object;II)V"), (146, u "copyOf"), (1, .methodref 305 306), (0, .class_ 307), (0, .nameAndType 308 309), (0, u "java/lang/Math"), (0, u "min"), (0, u "(II)I"), (65, .class_ 376), (0, u "java/util/Arrays$ArrayList"), (68, u "$assertionsDisabled"), (269, u "MIN_ARRAY_SORT_GRAN"), (0, u "I"), (2, u "INSERTIONSORT_THRESHOLD"), (151, u "([II)[I"), (103, .class_ 976), (0, u "java/util/Arrays$ArrayItr")] 52

def k3m0 : Method := { name := "<init>", desc := "()V", sig := { parameters := [], returnType := none }, accessFlags := 2, code := none }
def k3c1 : Code := { maxStack := 6, maxLocals := 3, code := jdk_65_method_123_code, exceptionTable := #[], attributes := #[] }
def k3m1 : Method := { name := "copyOf", desc := "([II)[I", sig := { parameters := [(.array .int), .int], returnType := some (.array .int) }, accessFlags := 9, code := some k3c1 }
/-- java/util/Arrays -/
def k3 : Class := { plain "java/util/Arrays" (some 0) with
  accessFlags := 49
  interfaces := #[]
  cf := some (fileOf pool3 14 #[.nestMembers #[975, 375, 113, 74]] #[{ accessFlags := 2, nameIndex := 5, descriptorIndex := 6, attributes := #[] }, { accessFlags := 9, nameIndex := 302, descriptorIndex := 871, attributes := #[] }] 49 2 #[] #[{ accessFlags := 26, nameIndex := 715, descriptorIndex := 716, attributes := #[] }, { accessFlags := 26, nameIndex := 719, descriptorIndex := 716, attributes := #[] }, { accessFlags := 4120, nameIndex := 445, descriptorIndex := 117, attributes := #[] }])
  fields := #[{ name := "MIN_ARRAY_SORT_GRAN", type := .int, accessFlags := 26, slot := 0, constantValue := 0 }, { name := "INSERTIONSORT_THRESHOLD", type := .int, accessFlags := 26, slot := 1, constantValue := 0 }, { name := "$assertionsDisabled", type := .boolean, accessFlags := 4120, slot := 2, constantValue := 0 }]
  methods := #[k3m0, k3m1]
  instanceTypes := #[]
  staticTypes := #[.int, .int, .boolean]
  resolved := Array.replicate 1029 none
  statics := none }

def pool4 : Array CpInfo := pool [(1, .class_ 2), (0, u "java/lang/Math"), (1, .class_ 6), (1, u "java/lang/Object"), (0, u "<init>"), (0, u "()V"), (89, .class_ 100), (1, u "java/lang/Math$RandomNumberGeneratorHolder"), (71, u "negativeZeroFloatBits"), (0, u "J"), (2, u "negativeZeroDoubleBits"), (24, u "min"), (43, u "$assertionsDisabled"), (0, u "Z"), (88, u "(II)I"), (2, u "twoToTheDoubleScaleDown"), (0, u "D"), (4, u "twoToTheDoubleScaleUp"), (9, u "E"), (3, u "PI"), (2, u "TAU"), (2, u "DEGREES_TO_RADIANS"), (0, u "RADIANS_TO_DEGREES")] 94

def k4m0 : Method := { name := "<init>", desc := "()V", sig := { parameters := [], returnType := none }, accessFlags := 2, code := none }
def k4c1 : Code := { maxStack := 2, maxLocals := 2, code := jdk_29_method_69_code, exceptionTable := #[], attributes := #[] }
def k4m1 : Method := { name := "min", desc := "(II)I", sig := { parameters := [.int, .int], returnType := some .int }, accessFlags := 9, code := some k4c1 }
/-- java/lang/Math -/
def k4 : Class := { plain "java/lang/Math" (some 0) with
  accessFlags := 49
  interfaces := #[]
  cf := some (fileOf pool4 1 #[.nestMembers #[98]] #[{ accessFlags := 2, nameIndex := 7, descriptorIndex := 8, attributes := #[] }, { accessFlags := 9, nameIndex := 201, descriptorIndex := 335, attributes := #[] }] 49 4 #[] #[{ accessFlags := 25, nameIndex := 354, descriptorIndex := 339, attributes := #[] }, { accessFlags := 25, nameIndex := 358, descriptorIndex := 339, attributes := #[] }, { accessFlags := 25, nameIndex := 361, descriptorIndex := 339, attributes := #[] }, { accessFlags := 26, nameIndex := 364, descriptorIndex := 339, attributes := #[] }, { accessFlags := 26, nameIndex := 365, descriptorIndex := 339, attributes := #[] }, { accessFlags := 26, nameIndex := 172, descriptorIndex := 173, attributes := #[] }, { accessFlags := 26, nameIndex := 176, descriptorIndex := 173, attributes := #[] }, { accessFlags := 8, nameIndex := 344, descriptorIndex := 339, attributes := #[] }, { accessFlags := 8, nameIndex := 338, descriptorIndex := 339, attributes := #[] }, { accessFlags := 4120, nameIndex := 245, descriptorIndex := 246, attributes := #[] }])
  fields := #[{ name := "E", type := .double, accessFlags := 25, slot := 0, constantValue := 0 }, { name := "PI", type := .double, accessFlags := 25, slot := 1, constantValue := 0 }, { name := "TAU", type := .double, accessFlags := 25, slot := 2, constantValue := 0 }, { name := "DEGREES_TO_RADIANS", type := .double, accessFlags := 26, slot := 3, constantValue := 0 }, { name := "RADIANS_TO_DEGREES", type := .double, accessFlags := 26, slot := 4, constantValue := 0 }, { name := "negativeZeroFloatBits", type := .long, accessFlags := 26, slot := 5, constantValue := 0 }, { name := "negativeZeroDoubleBits", type := .long, accessFlags := 26, slot := 6, constantValue := 0 }, { name := "twoToTheDoubleScaleUp", type := .double, accessFlags := 8, slot := 7, constantValue := 0 }, { name := "twoToTheDoubleScaleDown", type := .double, accessFlags := 8, slot := 8, constantValue := 0 }, { name := "$assertionsDisabled", type := .boolean, accessFlags := 4120, slot := 9, constantValue := 0 }]
  methods := #[k4m0, k4m1]
  instanceTypes := #[]
  staticTypes := #[.double, .double, .double, .double, .double, .long, .long, .double, .double, .boolean]
  resolved := Array.replicate 460 none
  statics := none }

def pool5 : Array CpInfo := pool [(2, .class_ 4), (1, u "java/lang/Object"), (0, u "<init>"), (0, u "()V"), (1, .class_ 10), (1, u "java/lang/System"), (0, u "allowSecurityManager"), (0, u "I"), (16, u "cons"), (0, u "Ljava/io/Console;"), (77, .class_ 110), (1, u "java/lang/System$CallersHolder"), (43, u "initialErrStream"), (0, u "Ljava/io/PrintStream;"), (19, u "security"), (0, u "Ljava/lang/SecurityManager;"), (31, .class_ 209), (0, u "java/lang/System$1"), (7, u "props"), (0, u "Ljava/util/Properties;"), (2, u "lineSeparator"), (0, u "Ljava/lang/String;"), (96, .class_ 321), (1, u "java/lang/System$LoggerFinder"), (5, .class_ 328), (0, u "java/lang/System$Logger"), (67, u "err"), (2, u "out"), (91, u "notSupportedJnuEncoding"), (15, u "in"), (17, u "initialIn"), (0, u "Ljava/io/InputStream;"), (35, u "bootLayer"), (0, u "Ljava/lang/ModuleLayer;"), (99, .class_ 664), (0, u "java/lang/System$2"), (9, u "NEVER"), (2, u "MAYBE"), (49, u "arraycopy"), (0, u "(Ljava/lang/Object;ILjava/lang/Object;II)V"), (72, .class_ 802), (0, u "java/lang/System$Logger$Level")] 31

def k5m0 : Method := { name := "<init>", desc := "()V", sig := { parameters := [], returnType := none }, accessFlags := 2, code := none }
def k5m1 : Method := { name := "arraycopy", desc := "(Ljava/lang/Object;ILjava/lang/Object;II)V", sig := { parameters := [(.object "java/lang/Object"), .int, (.object "java/lang/Object"), .int, .int], returnType := none }, accessFlags := 265, code := none }
/-- java/lang/System -/
def k5 : Class := { plain "java/lang/System" (some 0) with
  accessFlags := 49
  interfaces := #[]
  cf := some (fileOf pool5 8 #[.nestMembers #[319, 327, 801, 108, 663, 208]] #[{ accessFlags := 2, nameIndex := 5, descriptorIndex := 6, attributes := #[] }, { accessFlags := 265, nameIndex := 727, descriptorIndex := 728, attributes := #[] }] 49 2 #[] #[{ accessFlags := 25, nameIndex := 507, descriptorIndex := 526, attributes := #[] }, { accessFlags := 25, nameIndex := 399, descriptorIndex := 155, attributes := #[] }, { accessFlags := 25, nameIndex := 396, descriptorIndex := 155, attributes := #[] }, { accessFlags := 10, nameIndex := 525, descriptorIndex := 526, attributes := #[] }, { accessFlags := 26, nameIndex := 674, descriptorIndex := 12, attributes := #[] }, { accessFlags := 26, nameIndex := 677, descriptorIndex := 12, attributes := #[] }, { accessFlags := 10, nameIndex := 11, descriptorIndex := 12, attributes := #[] }, { accessFlags := 74, nameIndex := 175, descriptorIndex := 176, attributes := #[] }, { accessFlags := 10, nameIndex := 491, descriptorIndex := 222, attributes := #[] }, { accessFlags := 74, nameIndex := 29, descriptorIndex := 30, attributes := #[] }, { accessFlags := 74, nameIndex := 154, descriptorIndex := 155, attributes := #[] }, { accessFlags := 10, nameIndex := 217, descriptorIndex := 218, attributes := #[] }, { accessFlags := 10, nameIndex := 221, descriptorIndex := 222, attributes := #[] }, { accessFlags := 8, nameIndex := 562, descriptorIndex := 563, attributes := #[] }])
  fields := #[{ name := "in", type := (.object "java/io/InputStream"), accessFlags := 25, slot := 0, constantValue := 0 }, { name := "out", type := (.object "java/io/PrintStream"), accessFlags := 25, slot := 1, constantValue := 0 }, { name := "err", type := (.object "java/io/PrintStream"), accessFlags := 25, slot := 2, constantValue := 0 }, { name := "initialIn", type := (.object "java/io/InputStream"), accessFlags := 10, slot := 3, constantValue := 0 }, { name := "NEVER", type := .int, accessFlags := 26, slot := 4, constantValue := 0 }, { name := "MAYBE", type := .int, accessFlags := 26, slot := 5, constantValue := 0 }, { name := "allowSecurityManager", type := .int, accessFlags := 10, slot := 6, constantValue := 0 }, { name := "security", type := (.object "java/lang/SecurityManager"), accessFlags := 74, slot := 7, constantValue := 0 }, { name := "notSupportedJnuEncoding", type := (.object "java/lang/String"), accessFlags := 10, slot := 8, constantValue := 0 }, { name := "cons", type := (.object "java/io/Console"), accessFlags := 74, slot := 9, constantValue := 0 }, { name := "initialErrStream", type := (.object "java/io/PrintStream"), accessFlags := 74, slot := 10, constantValue := 0 }, { name := "props", type := (.object "java/util/Properties"), accessFlags := 10, slot := 11, constantValue := 0 }, { name := "lineSeparator", type := (.object "java/lang/String"), accessFlags := 10, slot := 12, constantValue := 0 }, { name := "bootLayer", type := (.object "java/lang/ModuleLayer"), accessFlags := 8, slot := 13, constantValue := 0 }]
  methods := #[k5m0, k5m1]
  instanceTypes := #[]
  staticTypes := #[(.object "java/io/InputStream"), (.object "java/io/PrintStream"), (.object "java/io/PrintStream"), (.object "java/io/InputStream"), .int, .int, .int, (.object "java/lang/SecurityManager"), (.object "java/lang/String"), (.object "java/io/Console"), (.object "java/io/PrintStream"), (.object "java/util/Properties"), (.object "java/lang/String"), (.object "java/lang/ModuleLayer")]
  resolved := Array.replicate 834 none
  statics := none }

def pool6 : Array CpInfo := pool [(1, u "java/lang/Cloneable"), (0, .class_ 1), (0, u "java/lang/Object"), (0, .class_ 3)] 3

/-- java/lang/Cloneable -/
def k6 : Class := { plain "java/lang/Cloneable" (some 0) with
  accessFlags := 1537
  interfaces := #[]
  cf := some (fileOf pool6 2 #[] #[] 1537 4 #[] #[])
  fields := #[]
  methods := #[]
  instanceTypes := #[]
  staticTypes := #[]
  resolved := Array.replicate 8 none
  statics := none }

def pool7 : Array CpInfo := pool [(1, u "java/io/Serializable"), (0, .class_ 1), (0, u "java/lang/Object"), (0, .class_ 3)] 3

/-- java/io/Serializable -/
def k7 : Class := { plain "java/io/Serializable" (some 0) with
  accessFlags := 1537
  interfaces := #[]
  cf := some (fileOf pool7 2 #[] #[] 1537 4 #[] #[])
  fields := #[]
  methods := #[]
  instanceTypes := #[]
  staticTypes := #[]
  resolved := Array.replicate 8 none
  statics := none }

/-- the primitive byte -/
def k8 : Class := { plain "byte" none with kind := .primitive 'B', accessFlags := 0x411 }
/-- [B -/
def k9 : Class := { plain "[B" (some 0) with kind := .array 8 .byte, interfaces := #[6, 7], accessFlags := 1041 }

/-- the primitive int -/
def k10 : Class := { plain "int" none with kind := .primitive 'I', accessFlags := 0x411 }
/-- [I -/
def k11 : Class := { plain "[I" (some 0) with kind := .array 10 .int, interfaces := #[6, 7], accessFlags := 1041 }

def heap : Heap := #[]
def classes : Array Class := #[k0, k1, k2, k3, k4, k5, k6, k7, k8, k9, k10, k11]
def interned : List (Array UInt16 × Addr) := []
def slotsUsed : Nat := 0
def theMethod : MethodId := ⟨1, 1⟩
def args0 : Array Value := #[.int 5, .int 7, .int 45]
def aboutOver (below : List Frame) : State where
  vm := { classes := classes, interned := interned.toArray }
  heap := heap
  slotsUsed := slotsUsed
  threads := #[{ frames := .invoking theMethod args0 :: below }]
def below0 : List Frame := [.native { method := ⟨0, 0⟩, args := #[] }]
def about1 : State := aboutOver below0
def p0 : Program := .bare "" "" ""
def e0 : Env := launch0.env 0 0 0
theorem w_frames : about1.frames = Frame.invoking theMethod args0 :: below0 := rfl
set_option maxRecDepth 65536 in
theorem w_args : argsFit about1.vm theMethod args0 = true := by decide +kernel
set_option maxRecDepth 65536 in
theorem w_heap : heapFits about1 = true := by decide +kernel
set_option maxRecDepth 65536 in
theorem w_runnable : about1.curStatus? = some .runnable := by decide +kernel
set_option maxRecDepth 65536 in
theorem w_alone : about1.alone = true := by decide +kernel
set_option maxRecDepth 65536 in
theorem w_named : about1.methodNamed? x = some theMethod := by decide +kernel
set_option maxRecDepth 65536 in
theorem w_hears : about1.hears theMethod below0 = true := by decide +kernel
set_option maxRecDepth 65536 in
theorem w_ripe : about1.ripe theMethod args0 below0 = true := by decide +kernel
theorem w_running : about1.status = .running := rfl
set_option maxRecDepth 65536 in
theorem w_room : about1.hasRoom e0.platform room_1 = true :=
  launch0.hasRoom_least _ room_1 (by decide +kernel) (by decide +kernel) (by decide +kernel) (by decide +kernel) (by decide +kernel) (by decide +kernel)
theorem allAtoms_all (ts : List Jvm.Cond) (a : Array Jvm.Value) (st : Jvm.State) : (allAtoms ts).before a st = ts.all (fun c => c.before a st) := by
  induction ts with
  | nil => rfl
  | cons c t ih =>
    show (Jvm.Cond.and c (allAtoms t)).before a st = _
    rw [Jvm.Cond.before_and, ih, List.all_cons]
def words1 : List Jvm.Cond := Jvm.Cond.code x code maxLocals ret :: tables_1
/-- a 'code' word, met by the world's own term for the bytes: nothing is compared byte by byte -/
theorem code_word {y : MethodName} {bytes : ByteArray} {mx : Nat} {rt : Option FieldType} {a : Array Value} {s : State} {m : MethodId} {meth : Method} {c : Code} (h1 : s.methodNamed? y = some m) (h2 : s.vm.method? m = some meth) (h3 : meth.code = some c) (h4 : c.code = bytes)
    (h5 : (c.maxLocals == mx && c.exceptionTable.isEmpty && decide (c.maxStack ≤ mostOperands) && decide (meth.sig.returnType = rt) && !meth.locks && decide (parseMethodDescriptor y.desc = some meth.sig)) = true) : (Jvm.Cond.code y bytes mx rt).before a s = true := by
  simp only [Bool.and_eq_true, beq_iff_eq, Bool.not_eq_true', decide_eq_true_eq] at h5
  obtain ⟨⟨⟨⟨⟨g1, g2⟩, g3⟩, g4⟩, g5⟩, g6⟩ := h5
  simp [Cond.before, Cond.holds, Cond.value, h1, h2, h3, h4, g1, g2, g3, g4, g5, g6]
def isCode : Jvm.Cond → Bool
  | .code _ _ _ _ => true
  | _ => false
theorem all_split {L : List Jvm.Cond} {P : Jvm.Cond → Bool} (h1 : L.all (fun c => isCode c || P c) = true) (h2 : ∀ c ∈ L.filter isCode, P c = true) : L.all P = true := by
  refine List.all_eq_true.mpr fun c hc => ?_
  have h := List.all_eq_true.mp h1 c hc
  rcases Bool.eq_false_or_eq_true (isCode c) with hi | hi
  · exact h2 c (List.mem_filter.mpr ⟨hc, hi⟩)
  · simpa [hi] using h
set_option maxRecDepth 65536 in
theorem w_c0 : (Jvm.Cond.code x code maxLocals ret).before args0 about1 = true := code_word (m := ⟨1, 1⟩) (meth := k1m1) (c := k1c1) (by decide +kernel) rfl rfl rfl (by decide +kernel)
set_option maxRecDepth 65536 in
theorem w_c1 : (Jvm.Cond.code ({ cls := "com/example/saturate/saturate/ints/IntList", name := "<init>", desc := "()V" } : Jvm.MethodName) prog_4_method_1_code (1 : Nat) (Option.none : Option Jvm.ClassFile.FieldType)).before args0 about1 = true := code_word (m := ⟨2, 0⟩) (meth := k2m0) (c := k2c0) (by decide +kernel) rfl rfl rfl (by decide +kernel)
set_option maxRecDepth 65536 in
theorem w_c2 : (Jvm.Cond.code ({ cls := "java/lang/Object", name := "<init>", desc := "()V" } : Jvm.MethodName) object_method_1_code (1 : Nat) (Option.none : Option Jvm.ClassFile.FieldType)).before args0 about1 = true := code_word (m := ⟨0, 0⟩) (meth := k0m0) (c := k0c0) (by decide +kernel) rfl rfl rfl (by decide +kernel)
set_option maxRecDepth 65536 in
theorem w_c3 : (Jvm.Cond.code ({ cls := "com/example/saturate/saturate/ints/IntList", name := "add", desc := "(I)V" } : Jvm.MethodName) prog_4_method_2_code (2 : Nat) (Option.none : Option Jvm.ClassFile.FieldType)).before args0 about1 = true := code_word (m := ⟨2, 1⟩) (meth := k2m1) (c := k2c1) (by decide +kernel) rfl rfl rfl (by decide +kernel)
set_option maxRecDepth 65536 in
theorem w_c4 : (Jvm.Cond.code ({ cls := "com/example/saturate/saturate/ints/IntList", name := "isEmpty", desc := "()Z" } : Jvm.MethodName) prog_4_method_7_code (1 : Nat) (Option.some Jvm.ClassFile.FieldType.boolean)).before args0 about1 = true := code_word (m := ⟨2, 4⟩) (meth := k2m4) (c := k2c4) (by decide +kernel) rfl rfl rfl (by decide +kernel)
set_option maxRecDepth 65536 in
theorem w_c5 : (Jvm.Cond.code ({ cls := "java/util/Arrays", name := "copyOf", desc := "([II)[I" } : Jvm.MethodName) jdk_65_method_123_code (3 : Nat) (Option.some (Jvm.ClassFile.FieldType.array Jvm.ClassFile.FieldType.int))).before args0 about1 = true := code_word (m := ⟨3, 1⟩) (meth := k3m1) (c := k3c1) (by decide +kernel) rfl rfl rfl (by decide +kernel)
set_option maxRecDepth 65536 in
theorem w_c6 : (Jvm.Cond.code ({ cls := "java/lang/Math", name := "min", desc := "(II)I" } : Jvm.MethodName) jdk_29_method_69_code (2 : Nat) (Option.some Jvm.ClassFile.FieldType.int)).before args0 about1 = true := code_word (m := ⟨4, 1⟩) (meth := k4m1) (c := k4c1) (by decide +kernel) rfl rfl rfl (by decide +kernel)
set_option maxRecDepth 65536 in
theorem w_c7 : (Jvm.Cond.code ({ cls := "com/example/saturate/saturate/ints/IntList", name := "removeLast", desc := "()I" } : Jvm.MethodName) prog_4_method_4_code (1 : Nat) (Option.some Jvm.ClassFile.FieldType.int)).before args0 about1 = true := code_word (m := ⟨2, 2⟩) (meth := k2m2) (c := k2c2) (by decide +kernel) rfl rfl rfl (by decide +kernel)
set_option maxRecDepth 65536 in
theorem w_c8 : (Jvm.Cond.code ({ cls := "com/example/saturate/saturate/ints/IntList", name := "clear", desc := "()V" } : Jvm.MethodName) prog_4_method_5_code (1 : Nat) (Option.none : Option Jvm.ClassFile.FieldType)).before args0 about1 = true := code_word (m := ⟨2, 3⟩) (meth := k2m3) (c := k2c3) (by decide +kernel) rfl rfl rfl (by decide +kernel)
def codes1 : List Jvm.Cond := [Jvm.Cond.code x code maxLocals ret, Jvm.Cond.code ({ cls := "com/example/saturate/saturate/ints/IntList", name := "<init>", desc := "()V" } : Jvm.MethodName) prog_4_method_1_code (1 : Nat) (Option.none : Option Jvm.ClassFile.FieldType), Jvm.Cond.code ({ cls := "java/lang/Object", name := "<init>", desc := "()V" } : Jvm.MethodName) object_method_1_code (1 : Nat) (Option.none : Option Jvm.ClassFile.FieldType), Jvm.Cond.code ({ cls := "com/example/saturate/saturate/ints/IntList", name := "add", desc := "(I)V" } : Jvm.MethodName) prog_4_method_2_code (2 : Nat) (Option.none : Option Jvm.ClassFile.FieldType), Jvm.Cond.code ({ cls := "com/example/saturate/saturate/ints/IntList", name := "isEmpty", desc := "()Z" } : Jvm.MethodName) prog_4_method_7_code (1 : Nat) (Option.some Jvm.ClassFile.FieldType.boolean), Jvm.Cond.code ({ cls := "java/util/Arrays", name := "copyOf", desc := "([II)[I" } : Jvm.MethodName) jdk_65_method_123_code (3 : Nat) (Option.some (Jvm.ClassFile.FieldType.array Jvm.ClassFile.FieldType.int)), Jvm.Cond.code ({ cls := "java/lang/Math", name := "min", desc := "(II)I" } : Jvm.MethodName) jdk_29_method_69_code (2 : Nat) (Option.some Jvm.ClassFile.FieldType.int), Jvm.Cond.code ({ cls := "com/example/saturate/saturate/ints/IntList", name := "removeLast", desc := "()I" } : Jvm.MethodName) prog_4_method_4_code (1 : Nat) (Option.some Jvm.ClassFile.FieldType.int), Jvm.Cond.code ({ cls := "com/example/saturate/saturate/ints/IntList", name := "clear", desc := "()V" } : Jvm.MethodName) prog_4_method_5_code (1 : Nat) (Option.none : Option Jvm.ClassFile.FieldType)]
set_option maxRecDepth 65536 in
theorem codes_eq : words1.filter isCode = codes1 := rfl
theorem w_codes : ∀ c ∈ words1.filter isCode, c.before args0 about1 = true := by
  rw [codes_eq]
  intro c hc
  simp only [codes1, List.mem_cons, List.not_mem_nil, or_false] at hc
  rcases hc with rfl | rfl | rfl | rfl | rfl | rfl | rfl | rfl | rfl
  · exact w_c0
  · exact w_c1
  · exact w_c2
  · exact w_c3
  · exact w_c4
  · exact w_c5
  · exact w_c6
  · exact w_c7
  · exact w_c8
set_option maxRecDepth 65536 in
theorem w_t1 : (words1.take 24).all (fun c => isCode c || c.before args0 about1) = true := by decide +kernel
set_option maxRecDepth 65536 in
theorem w_t2 : (words1.drop 24).all (fun c => isCode c || c.before args0 about1) = true := by decide +kernel
theorem w_tables : (allAtoms (Jvm.Cond.code x code maxLocals ret :: tables_1)).before args0 about1 = true := by
  rw [allAtoms_all]
  show words1.all (fun c => c.before args0 about1) = true
  refine all_split ?_ w_codes
  rw [← List.take_append_drop 24 words1, List.all_append, w_t1, w_t2]
  rfl
set_option maxRecDepth 65536 in
theorem w_case : (Jvm.Cond.and given_1 narrow_1).before args0 about1 = true := by decide +kernel
theorem w_applies : (headSpec (Jvm.Cond.code x code maxLocals ret :: tables_1) room_1).applies x e0.platform about1 = true :=
  (Spec.applies_iff w_frames).mpr ⟨w_running, w_runnable, w_alone, w_named, w_hears, w_ripe, w_room, w_tables⟩
theorem atStart : AtStart classFile x code maxLocals ret World_1 tables_1 room_1 Calls_1 rest_1 Pre_1 launch0 p0 e0 about1 theMethod args0 below0 :=
  ⟨lists_1, trivial, launch0.admits_env _ _ _, launch0.least_env, fairChoices_fair.cas, fairChoices_fair.clock, w_frames, w_args, w_heap, w_applies, trivial, trivial, w_case⟩
end start1
theorem witness_1 : WitnessClaimed_1 := ⟨start1.p0, start1.e0, start1.about1, start1.theMethod, start1.args0, start1.below0, start1.atStart⟩
end Jvm.Pilot.@@N@@
