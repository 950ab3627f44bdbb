import JvmDerived
import JvmDerived.Pilot.@@N@@Statement
import JvmDerived.Pilot.@@N@@Code
set_option linter.unusedVariables false
set_option linter.unusedSimpArgs false
namespace Jvm.RoadKit
open Sem ClassFile Op Lib Jvm.Stand Jvm.Free Jvm.LawKit
section New
variable {p : Program} {l : Launch} {e : Env} {R : Room} {s : State} {m : MethodId} {args : Array Value} {below : List Frame} {meth : Method} {c : Code} {T : State} {locs : List Loc} {cells slots : Nat}
theorem retI (X : Stand p l e R s m args below meth c T locs cells slots) (hx : p.tables.exec = Jvm.exec) {pc : Nat} {Ls : Array Slot} {z : Int32} {rest : List Value} (hret : meth.sig.returnType = some .int) (hd : decode c.code pc = .ok (.ireturn, 1)) {fs : List Frame}
    (hl : ∀ (f : JFrame) (acts : List Action), f.method = m → f.locked = none → f.entered = [] → (doReturn e (T.setTop f) acts (some (.int z))).1 = T.setFrames fs) : Steps p.tables e below (T.setTop (mkF m pc Ls (.int z :: rest))) (T.setFrames fs) := by
  have hm' : T.vm.method? m = some meth := X.method'
  have hn : narrow .int (.int z) = .int z := rfl
  show Steps p.tables e below (T.setTop { method := m, pc := pc, locals := Ls, stack := _ :: rest, locked := none }) _
  jvm_step X.here [X.here.top, hx, hd, hm', hret, hn]
  first | (intro acts; rw [hl _ acts rfl rfl rfl]) | rw [hl _ _ rfl rfl rfl]
  exact Steps.refl _
end New
end Jvm.RoadKit
namespace Jvm.Pilot.@@N@@
open Jvm Jvm.ClassFile Sem Op Lib Jvm.Free Jvm.Stand Jvm.LawKit Jvm.RoadKit Bundle Jvm.Pilot.@@N@@.Jvm.D
/-- what is left of a run from the state A: it comes to an end, returns, and leaves what Q says -/
def OwnG (tb : Tables) (e : Env) (below : List Frame) (s : State) (R : Room) (Q : Option Value → Heap → List Loc → Prop) (A : State) : Prop :=
  ∃ s₂ o, Steps tb e below A s₂ ∧ s₂.status = .running ∧ Ended s₂ below o ∧ ∃ v L, o = .returned v ∧ Q v s₂.heap L ∧ FrameEnd s o s₂ L R.cells R.slots
theorem OwnG.go {tb : Tables} {e : Env} {below : List Frame} {s : State} {R : Room} {Q : Option Value → Heap → List Loc → Prop} {A B : State} (st : ∀ t, Steps tb e below A t → Steps tb e below B t) (h : OwnG tb e below s R Q A) : OwnG tb e below s R Q B := by
  obtain ⟨s₂, o, h1, h2⟩ := h
  exact ⟨s₂, o, st _ h1, h2⟩
theorem own_stand {p : Program} {l : Launch} {e : Env} {R : Room} {s : State} {m : MethodId} {args : Array Value} {below : List Frame} {meth : Method} {c : Code} {T : State} {locs : List Loc} {k n k' n' : Nat} (X : Stand p l e R s m args below meth c T locs k n) (h1 : k ≤ k') (h2 : n ≤ n') : Stand p l e R s m args below meth c T locs k' n' :=
  { X with same := X.same.mono h1 h2 }
theorem own_nat {k : Nat} (h : k < 2 ^ 31) : (Int32.ofNat k).toNatClampNeg = k := by
  simp only [Int32.toNatClampNeg]
  rw [Int32.toInt_ofNat_of_lt h]
  omega
theorem own_nneg {k : Nat} (h : k < 2 ^ 31) : ¬ Int32.ofNat k < 0 := by
  rw [Int32.lt_iff_toInt_lt, Int32.toInt_ofNat_of_lt h]
  show ¬ (k : Int) < 0
  omega
theorem own_lt {i j : Nat} (hi : i < 2 ^ 31) (hj : j < 2 ^ 31) : Int32.ofNat i < Int32.ofNat j ↔ i < j := by
  rw [Int32.lt_iff_toInt_lt, Int32.toInt_ofNat_of_lt hi, Int32.toInt_ofNat_of_lt hj]
  omega
theorem own_eq {i j : Nat} (hi : i < 2 ^ 31) (hj : j < 2 ^ 31) : Int32.ofNat i = Int32.ofNat j ↔ i = j := by
  rw [← Int32.toInt_inj, Int32.toInt_ofNat_of_lt hi, Int32.toInt_ofNat_of_lt hj]
  omega
theorem own_one (i : Nat) : Int32.ofNat i + (1 : Int32) = Int32.ofNat (i + 1) := (Int32.ofNat_add i 1).symm
theorem own_subn {i j : Nat} (h : j ≤ i) : Int32.ofNat i - Int32.ofNat j = Int32.ofNat (i - j) := by
  have : Int32.ofNat i = Int32.ofNat (i - j) + Int32.ofNat j := by rw [← Int32.ofNat_add, Nat.sub_add_cancel h]
  rw [this, Int32.add_sub_cancel]
theorem own_sub1 {i : Nat} (h : 1 ≤ i) : Int32.ofNat i - (1 : Int32) = Int32.ofNat (i - 1) := own_subn h
theorem own_dbl (i : Nat) : Int32.ofNat i * (2 : Int32) = Int32.ofNat (2 * i) := by
  rw [Nat.mul_comm, Int32.ofNat_mul]; rfl
theorem own_dbl' (i : Nat) : (2 : Int32) * Int32.ofNat i = Int32.ofNat (2 * i) := by
  rw [Int32.ofNat_mul]; rfl
def own_min (x y : Int32) : Int32 := if y < x then y else x
theorem own_min_l {i j : Nat} (hi : i < 2 ^ 31) (hj : j < 2 ^ 31) (h : i ≤ j) : own_min (Int32.ofNat i) (Int32.ofNat j) = Int32.ofNat i := by
  rw [own_min, if_neg]
  rw [own_lt hj hi]; omega
def own_max (x y : Int32) : Int32 := if x < y then y else x
theorem own_max_n {i j : Nat} (hi : i < 2 ^ 31) (hj : j < 2 ^ 31) : own_max (Int32.ofNat i) (Int32.ofNat j) = Int32.ofNat (max i j) := by
  rw [own_max]
  by_cases h : i < j
  · rw [if_pos ((own_lt hi hj).mpr h), Nat.max_eq_right (by omega)]
  · rw [if_neg (fun q => h ((own_lt hi hj).mp q)), Nat.max_eq_left (by omega)]
theorem own_toNat (z : Int32) : z = Int32.ofNat z.toBitVec.toNat := by
  apply Int32.toBitVec_inj.mp
  show _ = BitVec.ofNat 32 _
  rw [BitVec.ofNat_toNat]; simp
theorem own_and {m : Nat} (x : Int32) (hm : m < 2 ^ 31) : ∃ n : Nat, n ≤ m ∧ (x &&& Int32.ofNat m) = Int32.ofNat n := by
  refine ⟨(x &&& Int32.ofNat m).toBitVec.toNat, ?_, own_toNat _⟩
  simp only [Int32.toBitVec_and, BitVec.toNat_and]
  refine Nat.le_trans Nat.and_le_right ?_
  show (BitVec.ofNat 32 m).toNat ≤ m
  rw [BitVec.toNat_ofNat]
  exact Nat.mod_le _ _
/-- an int[] of n places, place i holding f i -/
def OwnA (Z : State) (h : Heap) (a : Addr) (n : Nat) (f : Nat → Int32) : Prop := ∃ cl : Cell, Arr Z h a cl .int ∧ cl.slots.size = n ∧ ∀ i, i < n → cl.slots[i]? = some (.int (f i))
section OwnArr
variable {Z : State} {h h' : Heap} {a b : Addr} {n : Nat} {f : Nat → Int32} {sl : Nat} {v : Value} {ws : List Addr}
theorem OwnA.lt (F : OwnA Z h a n f) : a < h.size := by obtain ⟨c, A, -⟩ := F; exact A.lt
theorem OwnA.ext (F : OwnA Z h a n f) (E : Ext h h') : OwnA Z h' a n f := by obtain ⟨c, A, r⟩ := F; exact ⟨c, A.ext E, r⟩
theorem OwnA.other (F : OwnA Z h b n f) (W : Wr h h' a sl v) (q : b ≠ a) : OwnA Z h' b n f := by obtain ⟨c, A, r⟩ := F; exact ⟨c, A.other W q, r⟩
theorem OwnA.keep (F : OwnA Z h a n f) (K : Keep h h' ws) (q : a ∉ ws) : OwnA Z h' a n f := by obtain ⟨c, A, r⟩ := F; exact ⟨c, ⟨K.2.1 a c A.1 q, A.2⟩, r⟩
theorem own_range (n : Nat) (f : Nat → Int32) {i : Nat} (hi : i < n) : ((List.range n).map fun i => Value.int (f i)).getD i (.int (0 : Int32)) = .int (f i) := by
  simp [List.getD_eq_getElem?_getD, hi]
theorem OwnA.arv (F : OwnA Z h a n f) (hn : n < 2 ^ 31) : ∃ k, Arv Z h a k .int (Int32.ofNat n) ((List.range n).map fun i => Value.int (f i)) (.int (0 : Int32)) := by
  obtain ⟨c, A, S, H⟩ := F
  refine ⟨c.cls, c, A, rfl, by rw [S, own_nat hn], own_nneg hn, fun i hi => ?_, fun i hi => ?_⟩
  · rw [S] at hi; rw [own_range n f hi]; exact H i hi
  · rw [S] at hi; rw [own_range n f hi]; rfl
theorem OwnA.of {k : ClassId} {vs : List Value} (F : Arv Z h a k .int (Int32.ofNat n) vs (.int (0 : Int32))) (hn : n < 2 ^ 31) (hf : ∀ i, i < n → vs.getD i (.int (0 : Int32)) = .int (f i)) : OwnA Z h a n f := by
  obtain ⟨c, A, q, S, N, H, G⟩ := F
  rw [own_nat hn] at S
  exact ⟨c, A, S, fun i hi => by rw [← hf i hi]; exact H i (by rw [S]; exact hi)⟩
theorem own_inb {c : Cell} {j : Nat} (S : c.slots.size = n) (hj : j < n) (hn : n < 2 ^ 31) : ¬ (Int32.ofNat j < 0 ∨ c.slots.size ≤ (Int32.ofNat j).toNatClampNeg) := by
  rw [own_nat (by omega), S]
  rintro (q | q)
  · exact own_nneg (by omega) q
  · omega
theorem own_at {c : Cell} {j : Nat} (S : c.slots.size = n) (H : ∀ i, i < n → c.slots[i]? = some (.int (f i))) (hj : j < n) (hn : n < 2 ^ 31) : c.slots[(Int32.ofNat j).toNatClampNeg]? = some (.int (f j)) := by
  rw [own_nat (by omega)]; exact H j hj
theorem OwnA.set {c : Cell} {j : Nat} {y : Int32} (A : Arr Z h a c .int) (S : c.slots.size = n) (H : ∀ i, i < n → c.slots[i]? = some (.int (f i))) (hj : j < n) (hn : n < 2 ^ 31) (W : Wr h h' a (Int32.ofNat j).toNatClampNeg (.int y)) : OwnA Z h' a n (fun i => if i = j then y else f i) := by
  rw [own_nat (by omega)] at W
  refine ⟨_, A.same W, by rw [sz_set]; exact S, fun i hi => ?_⟩
  by_cases u : j = i
  · subst u; simp [Cell.setSlot, S, hj]
  · have := H i hi
    have u' : ¬ i = j := fun q => u q.symm
    simp only [Cell.setSlot]
    rw [Array.getElem?_setIfInBounds_ne u, this]
    simp [u']
theorem own_copy {n' : Nat} (h1 : n ≤ n') (hn : n < 2 ^ 31) : ∀ i, i < n' → ((List.replicate n' (Value.int (0 : Int32))).take (0 : Int32).toNatClampNeg ++ (List.range (Int32.ofNat n).toNatClampNeg).map (fun i => ((List.range n).map fun i => Value.int (f i)).getD ((0 : Int32).toNatClampNeg + i) (.int (0 : Int32))) ++ (List.replicate n' (Value.int (0 : Int32))).drop ((0 : Int32).toNatClampNeg + (Int32.ofNat n).toNatClampNeg)).getD i (.int (0 : Int32)) = .int (if i < n then f i else 0) := by
  intro i hi
  rw [own_nat hn, show (0 : Int32).toNatClampNeg = 0 from rfl, List.take_zero, List.nil_append, Nat.zero_add]
  simp only [List.getD_eq_getElem?_getD]
  by_cases q : i < n
  · rw [List.getElem?_append_left (by simpa using q)]
    simp [q]
  · rw [List.getElem?_append_right (by simpa using q)]
    simp [q]
    rw [List.getElem?_replicate]
    split <;> rfl
end OwnArr
def own_ix (g : Nat → Int32) (x : Int32) : Nat → Nat → Int32
  | _, 0 => -1
  | i, k + 1 => if g i = x then Int32.ofNat i else own_ix g x (i + 1) k
def own_ct (g : Nat → Int32) (x : Int32) (n : Nat) : Int32 := if own_ix g x 0 n < 0 then 0 else 1
theorem own_ix_no {g : Nat → Int32} {x : Int32} : ∀ k i : Nat, (∀ j, i ≤ j → j < i + k → ¬ g j = x) → own_ix g x i k = -1
  | 0, i, _ => rfl
  | k + 1, i, h => by
    rw [own_ix, if_neg (h i (Nat.le_refl _) (by omega))]
    exact own_ix_no k (i + 1) fun j h1 h2 => h j (by omega) (by omega)
theorem own_ix_yes {g : Nat → Int32} {x : Int32} : ∀ k i j : Nat, i ≤ j → j < i + k → i + k < 2 ^ 31 → g j = x → ¬ own_ix g x i k < 0
  | 0, i, j, h1, h2, _, _ => absurd h2 (by omega)
  | k + 1, i, j, h1, h2, h3, h4 => by
    rw [own_ix]
    by_cases q : g i = x
    · rw [if_pos q]; exact own_nneg (by omega)
    · rw [if_neg q]
      exact own_ix_yes k (i + 1) j (by
        rcases Nat.lt_or_eq_of_le h1 with u | u
        · exact u
        · subst u; exact absurd h4 q) (by omega) (by omega) h4
theorem own_ct_1 {g : Nat → Int32} {x : Int32} {n j : Nat} (hn : n < 2 ^ 31) (hj : j < n) (h : g j = x) : own_ct g x n = 1 := by
  rw [own_ct, if_neg (own_ix_yes n 0 j (Nat.zero_le _) (by omega) (by omega) h)]
theorem own_ct_0 {g : Nat → Int32} {x : Int32} {n : Nat} (h : ∀ j, j < n → ¬ g j = x) : own_ct g x n = 0 := by
  rw [own_ct, own_ix_no n 0 (fun j _ h2 => h j (by omega)), if_pos (by decide)]
def own_g (a b c : Int32) : Nat → Int32
  | 0 => a
  | 1 => b
  | _ => c
/-- the cards at a: sz of them, the i-th is g i; all of it is new -/
def OwnC (Z : State) (h : Heap) (n0 : Nat) (a : Addr) (sz : Nat) (g : Nat → Int32) : Prop := n0 ≤ h.size ∧ n0 ≤ a ∧ Exa Z h a "com/example/shuntyard/shuntyard/table/Cards" ∧ Fld Z h a "com/example/shuntyard/shuntyard/table/Cards" "size" "I" (.int (Int32.ofNat sz)) ∧ ∃ (t : Addr) (cap : Nat) (f : Nat → Int32), Fld Z h a "com/example/shuntyard/shuntyard/table/Cards" "cards" "[I" (.ref t) ∧ OwnA Z h t cap f ∧ n0 ≤ t ∧ a ≠ t ∧ sz ≤ cap ∧ cap ≤ 6 ∧ ∀ i, i < sz → f i = g i
theorem OwnC.as {Z : State} {h : Heap} {n0 : Nat} {a : Addr} {sz : Nat} {g g' : Nat → Int32} (S : OwnC Z h n0 a sz g) (q : ∀ i, i < sz → g i = g' i) : OwnC Z h n0 a sz g' := by
  obtain ⟨h1, h2, h3, h4, t, cap, f, h5, h6, h7, h8, h9, h10, h11⟩ := S
  exact ⟨h1, h2, h3, h4, t, cap, f, h5, h6, h7, h8, h9, h10, fun i hi => (h11 i hi).trans (q i hi)⟩
/-- the model's own selection picks a private method itself -/
theorem own_sel {y : MethodName} {s : State} {args : Array Value} {n : Nat} (hy : y.cls ≠ "java/lang/invoke/MethodHandle" ∧ y.cls ≠ "java/lang/invoke/VarHandle") (hins : (Jvm.Cond.instantiable y.cls n).before args s = true) (hpriv : (Jvm.Cond.privateMethod y).before args s = true) (hinst : (Jvm.Cond.instanceMethod y).before args s = true) :
    (Jvm.Cond.selects y.cls y y).before args s = true := by
  obtain ⟨c, k, hc, hk, -, hniab, -, -⟩ := Cond.instantiable_spec hins
  have hni : k.isInterface = false := (Bool.or_eq_false_iff.mp hniab).1
  obtain ⟨mk, methM, hnamed, hmethM, -, -⟩ := Cond.instanceMethod_spec hinst
  have hfound : s.methodFound? y.cls y.name y.desc = some mk := State.methodFound?_of_named hnamed hy
  have hcls : mk.cls = c := Option.some.inj ((findClass_of_methodNamed hnamed).symm.trans hc)
  have hsel : selectMethod {} s.vm c mk = .method mk := selectMethod_private hmethM (Cond.privateMethod_at hpriv mk methM hnamed hmethM)
  simp only [Cond.before, Cond.holds, Cond.value, hc, hfound, hnamed, hsel, hcls, hk]
  simp; exact hni
theorem pd_1 : parseMethodDescriptor "(I)V" = some ⟨[.int], none⟩ := by decide +kernel
theorem pd_2 : parseMethodDescriptor "()V" = some ⟨[], none⟩ := by decide +kernel
theorem pd_3 : parseMethodDescriptor "(I)Z" = some ⟨[.int], some .boolean⟩ := by decide +kernel
theorem pd_4 : parseMethodDescriptor "(I)I" = some ⟨[.int], some .int⟩ := by decide +kernel
theorem pd_5 : parseMethodDescriptor "(I)V" = some ⟨[.int], none⟩ := by decide +kernel
theorem pd_6 : parseMethodDescriptor "(II)I" = some ⟨[.int, .int], some .int⟩ := by decide +kernel
theorem pd_7 : parseMethodDescriptor "([II)[I" = some ⟨[(.array .int), .int], some (.array .int)⟩ := by decide +kernel
theorem pd_8 : parseMethodDescriptor "(II)I" = some ⟨[.int, .int], some .int⟩ := by decide +kernel
theorem pd_9 : parseMethodDescriptor "()I" = some ⟨[], some .int⟩ := by decide +kernel
theorem pd_10 : parseMethodDescriptor "(I)I" = some ⟨[.int], some .int⟩ := by decide +kernel
theorem pf_6 : plainFor (⟨"java/lang/Math", "max", "(II)I"⟩ : MethodName) = true := by decide +kernel
theorem d6_0 : decode jdk_29_method_65_code 0 = .ok (.iload_n 0, 1) := by decide +kernel
theorem d6_1 : decode jdk_29_method_65_code 1 = .ok (.iload_n 1, 1) := by decide +kernel
theorem d6_2 : decode jdk_29_method_65_code 2 = .ok (.if_icmp .lt 7, 3) := by decide +kernel
theorem d6_5 : decode jdk_29_method_65_code 5 = .ok (.iload_n 0, 1) := by decide +kernel
theorem d6_6 : decode jdk_29_method_65_code 6 = .ok (.goto 4, 3) := by decide +kernel
theorem d6_9 : decode jdk_29_method_65_code 9 = .ok (.iload_n 1, 1) := by decide +kernel
theorem d6_10 : decode jdk_29_method_65_code 10 = .ok (.ireturn, 1) := by decide +kernel
theorem ef_6 (m : MethodId) (x0 : Int32) (x1 : Int32) : entryFrame m #[(.int x0), (.int x1)] 2 = mkF m 0 #[.val (.int x0), .val (.int x1)] [] := by first | (simp [entryFrame, mkF, argsToLocals, Value.category]; done) | rfl
def Q6 (Z : State) (p1 p2 : Int32) (h0 : Heap) (n0 : Nat) (v : Option Value) (h : Heap) (L : List Loc) : Prop := v = some (.int (own_max p1 p2)) ∧ Fr n0 L ∧ h = h0
set_option maxRecDepth 65536 in
set_option maxHeartbeats 40000000 in
theorem rm6 (l : Launch) (Z : State) (a0 : Array Value) (hw : ∀ d ∈ tables_1, d.before a0 Z = true) (ws : List Jvm.Cond) (p1 p2 : Int32) (h0 : Heap) (n0 : Nat) (Z0 : n0 ≤ h0.size)  :
    MetFree l (⟨"java/lang/Math", "max", "(II)I"⟩ : MethodName) (head1 (Jvm.Cond.code (⟨"java/lang/Math", "max", "(II)I"⟩ : MethodName) jdk_29_method_65_code 2 (some .int) :: ws) ({ frames := 0, cells := 0, slots := 0, locals := 0 } : Room)) (fun a U => a = #[(.int p1), (.int p2)] ∧ Z.Warmed39 U.vm ∧ U.heap = h0) (fun _ _ _ _ _ => True) (fun _ U o U' => ∃ v L, o = .returned v ∧ (Q6 Z p1 p2 h0 n0) v U'.heap L ∧ FrameEnd U o U' L ({ frames := 0, cells := 0, slots := 0, locals := 0 } : Room).cells ({ frames := 0, cells := 0, slots := 0, locals := 0 } : Room).slots) := by
  refine MetFree.of_bodySF pf_6 hisR ?_
  intro p e s m args below meth c s₁ Bd hml0 hP hK
  obtain ⟨rfl, hZ, hh⟩ := hP
  have hx := Bd.exec
  have hby := Bd.bytes
  have hml : c.maxLocals = 2 := hml0
  have hown : s.vm.findClass "java/lang/Math" = some m.cls := (findClass_of_methodNamed Bd.named :)
  have hnm := (name_of_methodNamed Bd.named Bd.method).1
  have X0 : Stand p l e ({ frames := 0, cells := 0, slots := 0, locals := 0 } : Room) s m #[(.int p1), (.int p2)] below meth c s₁ [] 0 0 := Stand.of_body Bd
  have e0 : s₁.heap = h0 := by rw [← hh, Bd.state]; rfl
  have N0 := Fr.nil n0
  show OwnG p.tables e below s ({ frames := 0, cells := 0, slots := 0, locals := 0 } : Room) (Q6 Z p1 p2 h0 n0) (s₁.setTop (entryFrame m #[(.int p1), (.int p2)] 2))
  refine OwnG.go (fun tz kz => castTop (ef_6 m p1 p2) kz) ?_
  show OwnG _ _ _ _ _ _ (s₁.setTop (mkF m 0 #[.val (.int p1), .val (.int p2)] []))
  refine OwnG.go (fun _ kz => XS.iloadN X0.here hx rfl (hb hby d6_0) rfl kz) ?_
  show OwnG _ _ _ _ _ _ (s₁.setTop (mkF m 1 #[.val (.int p1), .val (.int p2)] [(.int p1)]))
  refine OwnG.go (fun _ kz => XS.iloadN X0.here hx rfl (hb hby d6_1) rfl kz) ?_
  show OwnG _ _ _ _ _ _ (s₁.setTop (mkF m 2 #[.val (.int p1), .val (.int p2)] [(.int p2), (.int p1)]))
  by_cases c1 : p1 < p2
  · have _u := ()
    refine OwnG.go (fun _ kz => XS.icmpYes X0.here hx rfl (pc0 := 2) (pc' := 9) rfl (hb hby d6_2) rfl (tlt c1).1 (by decide) (by decide) kz) ?_
    show OwnG _ _ _ _ _ _ (s₁.setTop (mkF m 9 #[.val (.int p1), .val (.int p2)] []))
    refine OwnG.go (fun _ kz => XS.iloadN X0.here hx rfl (hb hby d6_9) rfl kz) ?_
    show OwnG _ _ _ _ _ _ (s₁.setTop (mkF m 10 #[.val (.int p1), .val (.int p2)] [(.int p2)]))
    obtain ⟨fs, hr, hrun, hended, hW, hsame⟩ := X0.leave (v := some (.int p2)) (fun h => by rw [Bd.returns] at h; cases h)
    refine ⟨_, _, retI X0 hx Bd.returns (hb hby d6_10) hr, hrun, hended, _, _, rfl, ?_, ⟨_, rfl⟩, hW, hsame.mono (by decide) (by decide)⟩
    show (Q6 Z p1 p2 h0 n0) _ s₁.heap _
    rw [e0]
    exact ⟨by rw [own_max, if_pos c1], N0, rfl⟩
  · have _u := ()
    refine OwnG.go (fun _ kz => XS.icmpNo X0.here hx rfl (hb hby d6_2) rfl (flt c1).1 kz) ?_
    show OwnG _ _ _ _ _ _ (s₁.setTop (mkF m 5 #[.val (.int p1), .val (.int p2)] []))
    refine OwnG.go (fun _ kz => XS.iloadN X0.here hx rfl (hb hby d6_5) rfl kz) ?_
    show OwnG _ _ _ _ _ _ (s₁.setTop (mkF m 6 #[.val (.int p1), .val (.int p2)] [(.int p1)]))
    refine OwnG.go (fun _ kz => XS.goto X0.here hx rfl (pc0 := 6) (pc' := 10) rfl (hb hby d6_6) (by decide) (by decide) kz) ?_
    show OwnG _ _ _ _ _ _ (s₁.setTop (mkF m 10 #[.val (.int p1), .val (.int p2)] [(.int p1)]))
    obtain ⟨fs, hr, hrun, hended, hW, hsame⟩ := X0.leave (v := some (.int p1)) (fun h => by rw [Bd.returns] at h; cases h)
    refine ⟨_, _, retI X0 hx Bd.returns (hb hby d6_10) hr, hrun, hended, _, _, rfl, ?_, ⟨_, rfl⟩, hW, hsame.mono (by decide) (by decide)⟩
    show (Q6 Z p1 p2 h0 n0) _ s₁.heap _
    rw [e0]
    exact ⟨by rw [own_max, if_neg c1], N0, rfl⟩
theorem pf_8 : plainFor (⟨"java/lang/Math", "min", "(II)I"⟩ : MethodName) = true := by decide +kernel
theorem d8_0 : decode jdk_29_method_69_code 0 = .ok (.iload_n 0, 1) := by decide +kernel
theorem d8_1 : decode jdk_29_method_69_code 1 = .ok (.iload_n 1, 1) := by decide +kernel
theorem d8_2 : decode jdk_29_method_69_code 2 = .ok (.if_icmp .gt 7, 3) := by decide +kernel
theorem d8_5 : decode jdk_29_method_69_code 5 = .ok (.iload_n 0, 1) := by decide +kernel
theorem d8_6 : decode jdk_29_method_69_code 6 = .ok (.goto 4, 3) := by decide +kernel
theorem d8_9 : decode jdk_29_method_69_code 9 = .ok (.iload_n 1, 1) := by decide +kernel
theorem d8_10 : decode jdk_29_method_69_code 10 = .ok (.ireturn, 1) := by decide +kernel
theorem ef_8 (m : MethodId) (x0 : Int32) (x1 : Int32) : entryFrame m #[(.int x0), (.int x1)] 2 = mkF m 0 #[.val (.int x0), .val (.int x1)] [] := by first | (simp [entryFrame, mkF, argsToLocals, Value.category]; done) | rfl
def Q8 (Z : State) (p1 p2 : Int32) (h0 : Heap) (n0 : Nat) (v : Option Value) (h : Heap) (L : List Loc) : Prop := v = some (.int (own_min p1 p2)) ∧ Fr n0 L ∧ h = h0
set_option maxRecDepth 65536 in
set_option maxHeartbeats 40000000 in
theorem rm8 (l : Launch) (Z : State) (a0 : Array Value) (hw : ∀ d ∈ tables_1, d.before a0 Z = true) (ws : List Jvm.Cond) (p1 p2 : Int32) (h0 : Heap) (n0 : Nat) (Z0 : n0 ≤ h0.size)  :
    MetFree l (⟨"java/lang/Math", "min", "(II)I"⟩ : MethodName) (head1 (Jvm.Cond.code (⟨"java/lang/Math", "min", "(II)I"⟩ : MethodName) jdk_29_method_69_code 2 (some .int) :: ws) ({ frames := 0, cells := 0, slots := 0, locals := 0 } : Room)) (fun a U => a = #[(.int p1), (.int p2)] ∧ Z.Warmed39 U.vm ∧ U.heap = h0) (fun _ _ _ _ _ => True) (fun _ U o U' => ∃ v L, o = .returned v ∧ (Q8 Z p1 p2 h0 n0) v U'.heap L ∧ FrameEnd U o U' L ({ frames := 0, cells := 0, slots := 0, locals := 0 } : Room).cells ({ frames := 0, cells := 0, slots := 0, locals := 0 } : Room).slots) := by
  refine MetFree.of_bodySF pf_8 hisR ?_
  intro p e s m args below meth c s₁ Bd hml0 hP hK
  obtain ⟨rfl, hZ, hh⟩ := hP
  have hx := Bd.exec
  have hby := Bd.bytes
  have hml : c.maxLocals = 2 := hml0
  have hown : s.vm.findClass "java/lang/Math" = some m.cls := (findClass_of_methodNamed Bd.named :)
  have hnm := (name_of_methodNamed Bd.named Bd.method).1
  have X0 : Stand p l e ({ frames := 0, cells := 0, slots := 0, locals := 0 } : Room) s m #[(.int p1), (.int p2)] below meth c s₁ [] 0 0 := Stand.of_body Bd
  have e0 : s₁.heap = h0 := by rw [← hh, Bd.state]; rfl
  have N0 := Fr.nil n0
  show OwnG p.tables e below s ({ frames := 0, cells := 0, slots := 0, locals := 0 } : Room) (Q8 Z p1 p2 h0 n0) (s₁.setTop (entryFrame m #[(.int p1), (.int p2)] 2))
  refine OwnG.go (fun tz kz => castTop (ef_8 m p1 p2) kz) ?_
  show OwnG _ _ _ _ _ _ (s₁.setTop (mkF m 0 #[.val (.int p1), .val (.int p2)] []))
  refine OwnG.go (fun _ kz => XS.iloadN X0.here hx rfl (hb hby d8_0) rfl kz) ?_
  show OwnG _ _ _ _ _ _ (s₁.setTop (mkF m 1 #[.val (.int p1), .val (.int p2)] [(.int p1)]))
  refine OwnG.go (fun _ kz => XS.iloadN X0.here hx rfl (hb hby d8_1) rfl kz) ?_
  show OwnG _ _ _ _ _ _ (s₁.setTop (mkF m 2 #[.val (.int p1), .val (.int p2)] [(.int p2), (.int p1)]))
  by_cases c1 : p2 < p1
  · have _u := ()
    refine OwnG.go (fun _ kz => XS.icmpYes X0.here hx rfl (pc0 := 2) (pc' := 9) rfl (hb hby d8_2) rfl (tlt c1).2.2.1 (by decide) (by decide) kz) ?_
    show OwnG _ _ _ _ _ _ (s₁.setTop (mkF m 9 #[.val (.int p1), .val (.int p2)] []))
    refine OwnG.go (fun _ kz => XS.iloadN X0.here hx rfl (hb hby d8_9) rfl kz) ?_
    show OwnG _ _ _ _ _ _ (s₁.setTop (mkF m 10 #[.val (.int p1), .val (.int p2)] [(.int p2)]))
    obtain ⟨fs, hr, hrun, hended, hW, hsame⟩ := X0.leave (v := some (.int p2)) (fun h => by rw [Bd.returns] at h; cases h)
    refine ⟨_, _, retI X0 hx Bd.returns (hb hby d8_10) hr, hrun, hended, _, _, rfl, ?_, ⟨_, rfl⟩, hW, hsame.mono (by decide) (by decide)⟩
    show (Q8 Z p1 p2 h0 n0) _ s₁.heap _
    rw [e0]
    exact ⟨by rw [own_min, if_pos c1], N0, rfl⟩
  · have _u := ()
    refine OwnG.go (fun _ kz => XS.icmpNo X0.here hx rfl (hb hby d8_2) rfl (flt c1).2.2.1 kz) ?_
    show OwnG _ _ _ _ _ _ (s₁.setTop (mkF m 5 #[.val (.int p1), .val (.int p2)] []))
    refine OwnG.go (fun _ kz => XS.iloadN X0.here hx rfl (hb hby d8_5) rfl kz) ?_
    show OwnG _ _ _ _ _ _ (s₁.setTop (mkF m 6 #[.val (.int p1), .val (.int p2)] [(.int p1)]))
    refine OwnG.go (fun _ kz => XS.goto X0.here hx rfl (pc0 := 6) (pc' := 10) rfl (hb hby d8_6) (by decide) (by decide) kz) ?_
    show OwnG _ _ _ _ _ _ (s₁.setTop (mkF m 10 #[.val (.int p1), .val (.int p2)] [(.int p1)]))
    obtain ⟨fs, hr, hrun, hended, hW, hsame⟩ := X0.leave (v := some (.int p1)) (fun h => by rw [Bd.returns] at h; cases h)
    refine ⟨_, _, retI X0 hx Bd.returns (hb hby d8_10) hr, hrun, hended, _, _, rfl, ?_, ⟨_, rfl⟩, hW, hsame.mono (by decide) (by decide)⟩
    show (Q8 Z p1 p2 h0 n0) _ s₁.heap _
    rw [e0]
    exact ⟨by rw [own_min, if_neg c1], N0, rfl⟩
theorem d7_0 : decode jdk_65_method_123_code 0 = .ok (.iload_n 1, 1) := by decide +kernel
theorem d7_1 : decode jdk_65_method_123_code 1 = .ok (.aload_n 0, 1) := by decide +kernel
theorem d7_2 : decode jdk_65_method_123_code 2 = .ok (.arraylength, 1) := by decide +kernel
theorem d7_3 : decode jdk_65_method_123_code 3 = .ok (.if_icmp .ne 11, 3) := by decide +kernel
theorem d7_6 : decode jdk_65_method_123_code 6 = .ok (.aload_n 0, 1) := by decide +kernel
theorem d7_7 : decode jdk_65_method_123_code 7 = .ok (.invokevirtual 316, 3) := by decide +kernel
theorem d7_10 : decode jdk_65_method_123_code 10 = .ok (.checkcast 317, 3) := by decide +kernel
theorem d7_13 : decode jdk_65_method_123_code 13 = .ok (.areturn, 1) := by decide +kernel
theorem d7_14 : decode jdk_65_method_123_code 14 = .ok (.iload_n 1, 1) := by decide +kernel
theorem d7_15 : decode jdk_65_method_123_code 15 = .ok (.newarray .int, 2) := by decide +kernel
theorem d7_17 : decode jdk_65_method_123_code 17 = .ok (.astore_n 2, 1) := by decide +kernel
theorem d7_18 : decode jdk_65_method_123_code 18 = .ok (.aload_n 0, 1) := by decide +kernel
theorem d7_19 : decode jdk_65_method_123_code 19 = .ok (.iconst 0, 1) := by decide +kernel
theorem d7_20 : decode jdk_65_method_123_code 20 = .ok (.aload_n 2, 1) := by decide +kernel
theorem d7_21 : decode jdk_65_method_123_code 21 = .ok (.iconst 0, 1) := by decide +kernel
theorem d7_22 : decode jdk_65_method_123_code 22 = .ok (.aload_n 0, 1) := by decide +kernel
theorem d7_23 : decode jdk_65_method_123_code 23 = .ok (.arraylength, 1) := by decide +kernel
theorem d7_24 : decode jdk_65_method_123_code 24 = .ok (.iload_n 1, 1) := by decide +kernel
theorem d7_25 : decode jdk_65_method_123_code 25 = .ok (.invokestatic 304, 3) := by decide +kernel
theorem d7_28 : decode jdk_65_method_123_code 28 = .ok (.invokestatic 150, 3) := by decide +kernel
theorem d7_31 : decode jdk_65_method_123_code 31 = .ok (.aload_n 2, 1) := by decide +kernel
theorem d7_32 : decode jdk_65_method_123_code 32 = .ok (.areturn, 1) := by decide +kernel
theorem pn_7 : plainName "java/util/Arrays" = true := by first | (simp [plainName, overriddenIn]; done) | decide +kernel
theorem ef_7 (m : MethodId) (x0 : Addr) (x1 : Int32) : entryFrame m #[(.ref x0), (.int x1)] 3 = mkF m 0 #[.val (.ref x0), .val (.int x1), .unset] [] := by first | (simp [entryFrame, mkF, argsToLocals, Value.category]; done) | rfl
def Q7 (Z : State) (a1 : Addr) (n n' : Nat) (f : Nat → Int32) (h0 : Heap) (n0 : Nat) (v : Option Value) (h : Heap) (L : List Loc) : Prop := v = some (.ref h0.size) ∧ Fr n0 L ∧ Keep h0 h [] ∧ OwnA Z h h0.size n' (fun i => if i < n then f i else 0)
set_option maxRecDepth 65536 in
set_option maxHeartbeats 40000000 in
theorem rm7 (l : Launch) (Z : State) (a0 : Array Value) (hw : ∀ d ∈ tables_1, d.before a0 Z = true) (ws : List Jvm.Cond) (a1 : Addr) (n n' : Nat) (f : Nat → Int32) (h0 : Heap) (n0 : Nat) (Z0 : n0 ≤ h0.size) (V1 : OwnA Z h0 a1 n f) (hn : n < n') (hn' : n' ≤ 6) :
    MetFree l (⟨"java/util/Arrays", "copyOf", "([II)[I"⟩ : MethodName) (head1 (Jvm.Cond.code (⟨"java/util/Arrays", "copyOf", "([II)[I"⟩ : MethodName) jdk_65_method_123_code 3 (some (.array .int)) :: ws) ({ frames := 1, cells := 1, slots := 6, locals := 40 } : Room)) (fun a U => a = #[(.ref a1), (.int (Int32.ofNat n'))] ∧ Z.Warmed39 U.vm ∧ U.heap = h0) (fun _ _ _ _ _ => True) (fun _ U o U' => ∃ v L, o = .returned v ∧ (Q7 Z a1 n n' f h0 n0) v U'.heap L ∧ FrameEnd U o U' L ({ frames := 1, cells := 1, slots := 6, locals := 40 } : Room).cells ({ frames := 1, cells := 1, slots := 6, locals := 40 } : Room).slots) := by
  refine MetFree.of_bodySF (plainFor_of_name pn_7) hisR ?_
  intro p e s m args below meth c s₁ Bd hml0 hP hK
  obtain ⟨rfl, hZ, hh⟩ := hP
  have hx := Bd.exec
  have hby := Bd.bytes
  have hml : c.maxLocals = 3 := hml0
  have hown : s.vm.findClass "java/util/Arrays" = some m.cls := (findClass_of_methodNamed Bd.named :)
  have hnm := (name_of_methodNamed Bd.named Bd.method).1
  have X0 : Stand p l e ({ frames := 1, cells := 1, slots := 6, locals := 40 } : Room) s m #[(.ref a1), (.int (Int32.ofNat n'))] below meth c s₁ [] 0 0 := Stand.of_body Bd
  have e0 : s₁.heap = h0 := by rw [← hh, Bd.state]; rfl
  have N0 := Fr.nil n0
  obtain ⟨cl, Ar, Sa, Ha⟩ := V1
  show OwnG p.tables e below s ({ frames := 1, cells := 1, slots := 6, locals := 40 } : Room) (Q7 Z a1 n n' f h0 n0) (s₁.setTop (entryFrame m #[(.ref a1), (.int (Int32.ofNat n'))] 3))
  refine OwnG.go (fun tz kz => castTop (ef_7 m a1 (Int32.ofNat n')) kz) ?_
  show OwnG _ _ _ _ _ _ (s₁.setTop (mkF m 0 #[.val (.ref a1), .val (.int (Int32.ofNat n')), .unset] []))
  refine OwnG.go (fun _ kz => XS.iloadN X0.here hx rfl (hb hby d7_0) rfl kz) ?_
  show OwnG _ _ _ _ _ _ (s₁.setTop (mkF m 1 #[.val (.ref a1), .val (.int (Int32.ofNat n')), .unset] [(.int (Int32.ofNat n'))]))
  refine OwnG.go (fun _ kz => XS.aloadN X0.here hx rfl (hb hby d7_1) rfl rfl kz) ?_
  show OwnG _ _ _ _ _ _ (s₁.setTop (mkF m 2 #[.val (.ref a1), .val (.int (Int32.ofNat n')), .unset] [(.ref a1), (.int (Int32.ofNat n'))]))
  refine OwnG.go (fun _ kz => X0.arraylength hx (by rw [e0]; exact Ar.1) (State.isArrayOf_alike hZ.alike Ar.2.1) (g := (mkF m 2 #[.val (.ref a1), .val (.int (Int32.ofNat n')), .unset] [(.ref a1), (.int (Int32.ofNat n'))])) rfl rfl (hb hby d7_2) _ kz) ?_
  rw [Sa]
  show OwnG _ _ _ _ _ _ (s₁.setTop (mkF m 3 #[.val (.ref a1), .val (.int (Int32.ofNat n')), .unset] [(.int (Int32.ofNat n)), (.int (Int32.ofNat n'))]))
  refine OwnG.go (fun _ kz => XS.icmpYes X0.here hx rfl (pc0 := 3) (pc' := 14) rfl (hb hby d7_3) rfl (feq (fun q => by have := (own_eq (by omega) (by omega)).mp q; omega)).2 (by decide) (by decide) kz) ?_
  show OwnG _ _ _ _ _ _ (s₁.setTop (mkF m 14 #[.val (.ref a1), .val (.int (Int32.ofNat n')), .unset] []))
  refine OwnG.go (fun _ kz => XS.iloadN X0.here hx rfl (hb hby d7_14) rfl kz) ?_
  show OwnG _ _ _ _ _ _ (s₁.setTop (mkF m 15 #[.val (.ref a1), .val (.int (Int32.ofNat n')), .unset] [(.int (Int32.ofNat n'))]))
  obtain ⟨T1, h1, k1, X1, e1, E1, A1, st1⟩ := newP X0 hx hZ (hw _ (List.mem_of_getElem? (i := 9) rfl)) e0 (g := (mkF m 15 #[.val (.ref a1), .val (.int (Int32.ofNat n')), .unset] [(.int (Int32.ofNat n'))])) rfl (hb hby d7_15) rfl (own_nneg (by omega)) (cap := 6) (by rw [own_nat (by omega)]; omega) (by decide) (by decide) (by decide)
  obtain ⟨b1, g1⟩ : ∃ z, z = h0.size := ⟨_, rfl⟩
  rw [← g1] at A1 st1
  refine OwnG.go st1 ?_
  show OwnG _ _ _ _ _ _ (T1.setTop (mkF m 17 #[.val (.ref a1), .val (.int (Int32.ofNat n')), .unset] [(.ref b1)]))
  have Ar1 := Ar.ext E1
  have gb : n0 ≤ b1 := Nat.le_trans Z0 (Nat.le_of_eq g1.symm)
  have Z1 : n0 ≤ h1.size := Nat.le_trans Z0 E1.1
  refine OwnG.go (fun _ kz => XS.astoreN X1.here hx rfl (hb hby d7_17) rfl rfl (l' := #[.val (.ref a1), .val (.int (Int32.ofNat n')), .val (.ref b1)]) rfl kz) ?_
  show OwnG _ _ _ _ _ _ (T1.setTop (mkF m 18 #[.val (.ref a1), .val (.int (Int32.ofNat n')), .val (.ref b1)] []))
  refine OwnG.go (fun _ kz => XS.aloadN X1.here hx rfl (hb hby d7_18) rfl rfl kz) ?_
  show OwnG _ _ _ _ _ _ (T1.setTop (mkF m 19 #[.val (.ref a1), .val (.int (Int32.ofNat n')), .val (.ref b1)] [(.ref a1)]))
  refine OwnG.go (fun _ kz => XS.iconst X1.here hx rfl (hb hby d7_19) kz) ?_
  show OwnG _ _ _ _ _ _ (T1.setTop (mkF m 20 #[.val (.ref a1), .val (.int (Int32.ofNat n')), .val (.ref b1)] [(.int (0 : Int32)), (.ref a1)]))
  refine OwnG.go (fun _ kz => XS.aloadN X1.here hx rfl (hb hby d7_20) rfl rfl kz) ?_
  show OwnG _ _ _ _ _ _ (T1.setTop (mkF m 21 #[.val (.ref a1), .val (.int (Int32.ofNat n')), .val (.ref b1)] [(.ref b1), (.int (0 : Int32)), (.ref a1)]))
  refine OwnG.go (fun _ kz => XS.iconst X1.here hx rfl (hb hby d7_21) kz) ?_
  show OwnG _ _ _ _ _ _ (T1.setTop (mkF m 22 #[.val (.ref a1), .val (.int (Int32.ofNat n')), .val (.ref b1)] [(.int (0 : Int32)), (.ref b1), (.int (0 : Int32)), (.ref a1)]))
  refine OwnG.go (fun _ kz => XS.aloadN X1.here hx rfl (hb hby d7_22) rfl rfl kz) ?_
  show OwnG _ _ _ _ _ _ (T1.setTop (mkF m 23 #[.val (.ref a1), .val (.int (Int32.ofNat n')), .val (.ref b1)] [(.ref a1), (.int (0 : Int32)), (.ref b1), (.int (0 : Int32)), (.ref a1)]))
  refine OwnG.go (fun _ kz => X1.arraylength hx (by rw [e1]; exact Ar1.1) (State.isArrayOf_alike hZ.alike Ar1.2.1) (g := (mkF m 23 #[.val (.ref a1), .val (.int (Int32.ofNat n')), .val (.ref b1)] [(.ref a1), (.int (0 : Int32)), (.ref b1), (.int (0 : Int32)), (.ref a1)])) rfl rfl (hb hby d7_23) _ kz) ?_
  rw [Sa]
  show OwnG _ _ _ _ _ _ (T1.setTop (mkF m 24 #[.val (.ref a1), .val (.int (Int32.ofNat n')), .val (.ref b1)] [(.int (Int32.ofNat n)), (.int (0 : Int32)), (.ref b1), (.int (0 : Int32)), (.ref a1)]))
  refine OwnG.go (fun _ kz => XS.iloadN X1.here hx rfl (hb hby d7_24) rfl kz) ?_
  show OwnG _ _ _ _ _ _ (T1.setTop (mkF m 25 #[.val (.ref a1), .val (.int (Int32.ofNat n')), .val (.ref b1)] [(.int (Int32.ofNat n')), (.int (Int32.ofNat n)), (.int (0 : Int32)), (.ref b1), (.int (0 : Int32)), (.ref a1)]))
  obtain ⟨_, _, ⟨T2, L2, k2, n2⟩, -, X2, ⟨Lc2, hQ2, l2, y2, z2⟩, st2⟩ := Jvm.LawKit.callS X1 hx (y := (⟨"java/lang/Math", "min", "(II)I"⟩ : MethodName)) hown (mvT hZ (hw _ (List.mem_of_getElem? (i := 36) rfl))) (mvT hZ (hw _ (List.mem_of_getElem? (i := 37) rfl))) (mvT hZ (hw _ (List.mem_of_getElem? (i := 30) rfl))) (mvT hZ (hw _ (List.mem_of_getElem? (i := 38) rfl))) (by decide) (backOf (W := 4) (rm8 l Z a0 hw [] (Int32.ofNat n) (Int32.ofNat n') h1 n0 Z1) hZ (hw _ (List.mem_of_getElem? (i := 38) rfl)) (hw _ (List.mem_of_getElem? (i := 30) rfl)) (by decide) (by decide)) (g := (mkF m 25 #[.val (.ref a1), .val (.int (Int32.ofNat n')), .val (.ref b1)] [(.int (Int32.ofNat n')), (.int (Int32.ofNat n)), (.int (0 : Int32)), (.ref b1), (.int (0 : Int32)), (.ref a1)])) rfl (by rw [hml]; rfl) (argsL := [(.int (Int32.ofNat n)), (.int (Int32.ofNat n'))]) (rest := [(.int (0 : Int32)), (.ref b1), (.int (0 : Int32)), (.ref a1)]) (lenOf pd_8 rfl) rfl (by show 2 * 0 + _ ≤ _; exact Nat.le_of_eq rfl) (hb hby d7_25) (fun _ _ => ⟨rfl, e1, (by decide : 1 + 0 ≤ _), (by decide : 6 + 0 ≤ _)⟩)
  dsimp only [Pt.U, Pt.locs, Pt.cells, Pt.slots] at X2 l2 y2 z2 st2 hQ2
  subst l2 y2 z2
  obtain ⟨rfl, N2q, hh2⟩ := hQ2
  have N2 := Fr.app N0 N2q
  refine OwnG.go (fun tz kz => st2 tz kz) ?_
  show OwnG _ _ _ _ _ _ (T2.setTop (mkF m 28 #[.val (.ref a1), .val (.int (Int32.ofNat n')), .val (.ref b1)] [(.int (own_min (Int32.ofNat n) (Int32.ofNat n'))), (.int (0 : Int32)), (.ref b1), (.int (0 : Int32)), (.ref a1)]))
  rw [own_min_l (by omega) (by omega) (by omega)]
  show OwnG _ _ _ _ _ _ (T2.setTop (mkF m 28 #[.val (.ref a1), .val (.int (Int32.ofNat n')), .val (.ref b1)] [(.int (Int32.ofNat n)), (.int (0 : Int32)), (.ref b1), (.int (0 : Int32)), (.ref a1)]))
  obtain ⟨kA, VA⟩ := OwnA.arv (⟨cl, Ar1, Sa, Ha⟩ : OwnA Z h1 a1 n f) (by omega)
  have VB : Arv Z h1 b1 k1 .int (Int32.ofNat n') (List.replicate n' (.int (0 : Int32))) (.int (0 : Int32)) := (Arv.new A1 (own_nneg (by omega))).pad (pad_rep [] (.int (0 : Int32)) n')
  obtain ⟨T3, h3, L3, X3, e3, N3, K3, V3, st3⟩ := cpA X2 hx hZ hown (hw _ (List.mem_of_getElem? (i := 39) rfl)) (hw _ (List.mem_of_getElem? (i := 42) rfl)) (hw _ (List.mem_of_getElem? (i := 40) rfl)) (hw _ (List.mem_of_getElem? (i := 41) rfl)) hh2 VA VB (Or.inl ⟨rfl, rfl⟩) (sp := (0 : Int32)) (dp := (0 : Int32)) (nn := Int32.ofNat n) (by decide) (by decide) (own_nneg (by omega)) (by rw [own_nat (k := n) (by omega)]; show 0 + n ≤ n; omega) (by rw [own_nat (k := n) (by omega), own_nat (k := n') (by omega)]; show 0 + n ≤ n'; omega) rfl (by rw [own_nat (k := n) (by omega), List.length_replicate]; show 0 + n ≤ n'; omega) N2 gb (g := (mkF m 28 #[.val (.ref a1), .val (.int (Int32.ofNat n')), .val (.ref b1)] [(.int (Int32.ofNat n)), (.int (0 : Int32)), (.ref b1), (.int (0 : Int32)), (.ref a1)])) rfl (by rw [hml]; rfl) rfl (hb hby d7_28) (by decide) (W := 0) (by show 2 * 0 + _ ≤ _; exact Nat.le_of_eq rfl) (by decide)
  have V9 : OwnA Z h3 b1 n' (fun i => if i < n then f i else 0) := OwnA.of V3 (by omega) (own_copy (by omega) (by omega))
  refine OwnG.go st3 ?_
  show OwnG _ _ _ _ _ _ (T3.setTop (mkF m 31 #[.val (.ref a1), .val (.int (Int32.ofNat n')), .val (.ref b1)] []))
  refine OwnG.go (fun _ kz => XS.aloadN X3.here hx rfl (hb hby d7_31) rfl rfl kz) ?_
  show OwnG _ _ _ _ _ _ (T3.setTop (mkF m 32 #[.val (.ref a1), .val (.int (Int32.ofNat n')), .val (.ref b1)] [(.ref b1)]))
  obtain ⟨fs, hr, hrun, hended, hW, hsame⟩ := X3.leave (v := some (.ref b1)) (fun h => by rw [Bd.returns] at h; cases h)
  refine ⟨_, _, ?_, hrun, hended, _, _, rfl, ?_, ⟨_, rfl⟩, hW, hsame.mono (by decide) (by decide)⟩
  · show Steps p.tables e below (T3.setTop (mkF m 32 #[.val (.ref a1), .val (.int (Int32.ofNat n')), .val (.ref b1)] [(.ref b1)])) _
    jvm_step X3.here [X3.here.top, hx, (hb hby d7_32), X3.method', Bd.returns, Value.isRef, FieldType.isReference]
    first | (intro acts; rw [hr _ acts rfl rfl rfl]) | rw [hr _ _ rfl rfl rfl]
    exact Steps.refl _
  show (Q7 Z a1 n n' f h0 n0) _ T3.heap _
  rw [e3]
  exact ⟨by rw [g1], N3, ((Keep.refl h0 []).ext E1).trans K3 (allS (Or.inr (Nat.le_of_eq g1.symm)) all0), by rw [← g1]; exact V9⟩
theorem d1_0 : decode prog_7_method_1_code 0 = .ok (.aload_n 0, 1) := by decide +kernel
theorem d1_1 : decode prog_7_method_1_code 1 = .ok (.invokespecial 1, 3) := by decide +kernel
theorem d1_4 : decode prog_7_method_1_code 4 = .ok (.aload_n 0, 1) := by decide +kernel
theorem d1_5 : decode prog_7_method_1_code 5 = .ok (.iload_n 1, 1) := by decide +kernel
theorem d1_6 : decode prog_7_method_1_code 6 = .ok (.newarray .int, 2) := by decide +kernel
theorem d1_8 : decode prog_7_method_1_code 8 = .ok (.putfield 7, 3) := by decide +kernel
theorem d1_11 : decode prog_7_method_1_code 11 = .ok (.return_, 1) := by decide +kernel
theorem pn_1 : plainName "com/example/shuntyard/shuntyard/table/Cards" = true := by first | (simp [plainName, overriddenIn]; done) | decide +kernel
theorem ef_1 (m : MethodId) (x0 : Addr) (x1 : Int32) : entryFrame m #[(.ref x0), (.int x1)] 2 = mkF m 0 #[.val (.ref x0), .val (.int x1)] [] := by first | (simp [entryFrame, mkF, argsToLocals, Value.category]; done) | rfl
def Q1 (Z : State) (a1 : Addr) (cp : Nat) (h0 : Heap) (n0 : Nat) (v : Option Value) (h : Heap) (L : List Loc) : Prop := v = none ∧ Fr n0 L ∧ ∀ g : Nat → Int32, OwnC Z h n0 a1 0 g
set_option maxRecDepth 65536 in
set_option maxHeartbeats 40000000 in
theorem rm1 (l : Launch) (Z : State) (a0 : Array Value) (hw : ∀ d ∈ tables_1, d.before a0 Z = true) (ws : List Jvm.Cond) (a1 : Addr) (cp : Nat) (h0 : Heap) (n0 : Nat) (Z0 : n0 ≤ h0.size) (E1 : Exa Z h0 a1 "com/example/shuntyard/shuntyard/table/Cards") (Fs : Fld Z h0 a1 "com/example/shuntyard/shuntyard/table/Cards" "size" "I" (.int (0 : Int32))) (Fi : Fld Z h0 a1 "com/example/shuntyard/shuntyard/table/Cards" "cards" "[I" .null) (ga : n0 ≤ a1) (hcp : cp ≤ 3) :
    MetFree l (⟨"com/example/shuntyard/shuntyard/table/Cards", "<init>", "(I)V"⟩ : MethodName) (head1 (Jvm.Cond.code (⟨"com/example/shuntyard/shuntyard/table/Cards", "<init>", "(I)V"⟩ : MethodName) prog_7_method_1_code 2 none :: ws) ({ frames := 1, cells := 1, slots := 3, locals := 12 } : Room)) (fun a U => a = #[(.ref a1), (.int (Int32.ofNat cp))] ∧ Z.Warmed39 U.vm ∧ U.heap = h0) (fun _ _ _ _ _ => True) (fun _ U o U' => ∃ v L, o = .returned v ∧ (Q1 Z a1 cp h0 n0) v U'.heap L ∧ FrameEnd U o U' L ({ frames := 1, cells := 1, slots := 3, locals := 12 } : Room).cells ({ frames := 1, cells := 1, slots := 3, locals := 12 } : Room).slots) := by
  refine MetFree.of_bodySF (plainFor_of_name pn_1) hisR ?_
  intro p e s m args below meth c s₁ Bd hml0 hP hK
  obtain ⟨rfl, hZ, hh⟩ := hP
  have hx := Bd.exec
  have hby := Bd.bytes
  have hml : c.maxLocals = 2 := hml0
  have hown : s.vm.findClass "com/example/shuntyard/shuntyard/table/Cards" = some m.cls := (findClass_of_methodNamed Bd.named :)
  have hnm := (name_of_methodNamed Bd.named Bd.method).1
  have X0 : Stand p l e ({ frames := 1, cells := 1, slots := 3, locals := 12 } : Room) s m #[(.ref a1), (.int (Int32.ofNat cp))] below meth c s₁ [] 0 0 := Stand.of_body Bd
  have e0 : s₁.heap = h0 := by rw [← hh, Bd.state]; rfl
  have N0 := Fr.nil n0
  show OwnG p.tables e below s ({ frames := 1, cells := 1, slots := 3, locals := 12 } : Room) (Q1 Z a1 cp h0 n0) (s₁.setTop (entryFrame m #[(.ref a1), (.int (Int32.ofNat cp))] 2))
  refine OwnG.go (fun tz kz => castTop (ef_1 m a1 (Int32.ofNat cp)) kz) ?_
  show OwnG _ _ _ _ _ _ (s₁.setTop (mkF m 0 #[.val (.ref a1), .val (.int (Int32.ofNat cp))] []))
  refine OwnG.go (fun _ kz => XS.aloadN X0.here hx rfl (hb hby d1_0) rfl rfl kz) ?_
  show OwnG _ _ _ _ _ _ (s₁.setTop (mkF m 1 #[.val (.ref a1), .val (.int (Int32.ofNat cp))] [(.ref a1)]))
  obtain ⟨T1, X1, e1, st1⟩ := initO X0 hx hZ hown (hw _ (List.mem_of_getElem? (i := 6) rfl)) (hw _ (List.mem_of_getElem? (i := 7) rfl)) (hw _ (List.mem_of_getElem? (i := 8) rfl)) e0 (g := (mkF m 1 #[.val (.ref a1), .val (.int (Int32.ofNat cp))] [(.ref a1)])) rfl (by rw [hml]; rfl) rfl (hb hby d1_1) (by decide) (W := 0) (by show 2 * 0 + _ ≤ _; exact Nat.le_of_eq rfl) (by decide)
  refine OwnG.go st1 ?_
  show OwnG _ _ _ _ _ _ (T1.setTop (mkF m 4 #[.val (.ref a1), .val (.int (Int32.ofNat cp))] []))
  refine OwnG.go (fun _ kz => XS.aloadN X1.here hx rfl (hb hby d1_4) rfl rfl kz) ?_
  show OwnG _ _ _ _ _ _ (T1.setTop (mkF m 5 #[.val (.ref a1), .val (.int (Int32.ofNat cp))] [(.ref a1)]))
  refine OwnG.go (fun _ kz => XS.iloadN X1.here hx rfl (hb hby d1_5) rfl kz) ?_
  show OwnG _ _ _ _ _ _ (T1.setTop (mkF m 6 #[.val (.ref a1), .val (.int (Int32.ofNat cp))] [(.int (Int32.ofNat cp)), (.ref a1)]))
  obtain ⟨T2, h2, k2, X2, e2, E2, A2, st2⟩ := newP X1 hx hZ (hw _ (List.mem_of_getElem? (i := 9) rfl)) e1 (g := (mkF m 6 #[.val (.ref a1), .val (.int (Int32.ofNat cp))] [(.int (Int32.ofNat cp)), (.ref a1)])) rfl (hb hby d1_6) rfl (own_nneg (by omega)) (cap := 3) (by rw [own_nat (by omega)]; omega) (by decide) (by decide) (by decide)
  obtain ⟨b2, g2⟩ : ∃ z, z = h0.size := ⟨_, rfl⟩
  rw [← g2] at A2 st2
  refine OwnG.go st2 ?_
  show OwnG _ _ _ _ _ _ (T2.setTop (mkF m 8 #[.val (.ref a1), .val (.int (Int32.ofNat cp))] [(.ref b2), (.ref a1)]))
  have V1 : OwnA Z h2 b2 cp (fun _ => 0) := OwnA.of (Arv.new A2 (own_nneg (by omega))) (by omega) (fun i _ => by simp)
  have gb : n0 ≤ b2 := Nat.le_trans Z0 (Nat.le_of_eq g2.symm)
  have Z1 : n0 ≤ h2.size := Nat.le_trans Z0 E2.1
  have neb : a1 ≠ b2 := Nat.ne_of_lt (Nat.lt_of_lt_of_le E1.lt (Nat.le_of_eq g2.symm))
  have Ea := E1.ext E2
  have Fs2 := Fs.ext E2
  have Fi2 := Fi.ext E2
  obtain ⟨T3, h3, X3, e3, W3, st3⟩ := putF X2 hx hZ hown (host := "") (Or.inl (hw _ (List.mem_of_getElem? (i := 10) rfl))) Via.refl e2 Fi2 Ea (Or.inl (hw _ (List.mem_of_getElem? (i := 11) rfl))) (hw _ (List.mem_of_getElem? (i := 1) rfl)) (ty := (.array .int)) (by decide) rfl rfl (g := (mkF m 8 #[.val (.ref a1), .val (.int (Int32.ofNat cp))] [(.ref b2), (.ref a1)])) rfl rfl (hb hby d1_8)
  have Fw3 := Fi2.same W3
  have N3 := Fr.snoc X3 N0 ga
  refine OwnG.go st3 ?_
  show OwnG _ _ _ _ _ _ (T3.setTop (mkF m 11 #[.val (.ref a1), .val (.int (Int32.ofNat cp))] []))
  obtain ⟨fs, hr, hrun, hended, hW, hsame⟩ := X3.leave (v := none) (fun _ => rfl)
  refine ⟨_, _, X3.returnOut hx Bd.returns (hb hby d1_11) hr, hrun, hended, _, _, rfl, ?_, ⟨_, rfl⟩, hW, hsame.mono (by decide) (by decide)⟩
  show (Q1 Z a1 cp h0 n0) _ T3.heap _
  rw [e3]
  exact ⟨rfl, N3, fun g => ⟨Nat.le_trans Z1 (Keep.of_wr W3).1, ga, Ea.wr W3, Fs2.other W3 (Or.inr (slot_ne (Or.inl (hw _ (List.mem_of_getElem? (i := 22) rfl))) (Or.inl (hw _ (List.mem_of_getElem? (i := 11) rfl))) (by decide) (t := .int) (t' := (.array .int)) (by decide) (by decide))), b2, cp, _, Fw3, V1.other W3 (Ne.symm neb), gb, neb, by omega, by omega, fun i hi => absurd hi (by omega)⟩⟩
theorem d5_0 : decode prog_7_method_6_code 0 = .ok (.aload_n 0, 1) := by decide +kernel
theorem d5_1 : decode prog_7_method_6_code 1 = .ok (.getfield 13, 3) := by decide +kernel
theorem d5_4 : decode prog_7_method_6_code 4 = .ok (.aload_n 0, 1) := by decide +kernel
theorem d5_5 : decode prog_7_method_6_code 5 = .ok (.getfield 7, 3) := by decide +kernel
theorem d5_8 : decode prog_7_method_6_code 8 = .ok (.arraylength, 1) := by decide +kernel
theorem d5_9 : decode prog_7_method_6_code 9 = .ok (.if_icmp .ne 24, 3) := by decide +kernel
theorem d5_12 : decode prog_7_method_6_code 12 = .ok (.aload_n 0, 1) := by decide +kernel
theorem d5_13 : decode prog_7_method_6_code 13 = .ok (.aload_n 0, 1) := by decide +kernel
theorem d5_14 : decode prog_7_method_6_code 14 = .ok (.getfield 7, 3) := by decide +kernel
theorem d5_17 : decode prog_7_method_6_code 17 = .ok (.iconst 1, 1) := by decide +kernel
theorem d5_18 : decode prog_7_method_6_code 18 = .ok (.iconst 2, 1) := by decide +kernel
theorem d5_19 : decode prog_7_method_6_code 19 = .ok (.aload_n 0, 1) := by decide +kernel
theorem d5_20 : decode prog_7_method_6_code 20 = .ok (.getfield 13, 3) := by decide +kernel
theorem d5_23 : decode prog_7_method_6_code 23 = .ok (.imul, 1) := by decide +kernel
theorem d5_24 : decode prog_7_method_6_code 24 = .ok (.invokestatic 24, 3) := by decide +kernel
theorem d5_27 : decode prog_7_method_6_code 27 = .ok (.invokestatic 30, 3) := by decide +kernel
theorem d5_30 : decode prog_7_method_6_code 30 = .ok (.putfield 7, 3) := by decide +kernel
theorem d5_33 : decode prog_7_method_6_code 33 = .ok (.aload_n 0, 1) := by decide +kernel
theorem d5_34 : decode prog_7_method_6_code 34 = .ok (.getfield 7, 3) := by decide +kernel
theorem d5_37 : decode prog_7_method_6_code 37 = .ok (.aload_n 0, 1) := by decide +kernel
theorem d5_38 : decode prog_7_method_6_code 38 = .ok (.dup, 1) := by decide +kernel
theorem d5_39 : decode prog_7_method_6_code 39 = .ok (.getfield 13, 3) := by decide +kernel
theorem d5_42 : decode prog_7_method_6_code 42 = .ok (.dup_x1, 1) := by decide +kernel
theorem d5_43 : decode prog_7_method_6_code 43 = .ok (.iconst 1, 1) := by decide +kernel
theorem d5_44 : decode prog_7_method_6_code 44 = .ok (.iadd, 1) := by decide +kernel
theorem d5_45 : decode prog_7_method_6_code 45 = .ok (.putfield 13, 3) := by decide +kernel
theorem d5_48 : decode prog_7_method_6_code 48 = .ok (.iload_n 1, 1) := by decide +kernel
theorem d5_49 : decode prog_7_method_6_code 49 = .ok (.iastore, 1) := by decide +kernel
theorem d5_50 : decode prog_7_method_6_code 50 = .ok (.return_, 1) := by decide +kernel
theorem pn_5 : plainName "com/example/shuntyard/shuntyard/table/Cards" = true := by first | (simp [plainName, overriddenIn]; done) | decide +kernel
theorem ef_5 (m : MethodId) (x0 : Addr) (x1 : Int32) : entryFrame m #[(.ref x0), (.int x1)] 2 = mkF m 0 #[.val (.ref x0), .val (.int x1)] [] := by first | (simp [entryFrame, mkF, argsToLocals, Value.category]; done) | rfl
def Q5 (Z : State) (a1 : Addr) (p2 : Int32) (sz : Nat) (g : Nat → Int32) (h0 : Heap) (n0 : Nat) (v : Option Value) (h : Heap) (L : List Loc) : Prop := v = none ∧ Fr n0 L ∧ OwnC Z h n0 a1 (sz + 1) (fun i => if i = sz then p2 else g i)
set_option maxRecDepth 65536 in
set_option maxHeartbeats 40000000 in
theorem rm5 (l : Launch) (Z : State) (a0 : Array Value) (hw : ∀ d ∈ tables_1, d.before a0 Z = true) (ws : List Jvm.Cond) (a1 : Addr) (p2 : Int32) (sz : Nat) (g : Nat → Int32) (h0 : Heap) (n0 : Nat) (Z0 : n0 ≤ h0.size) (S1 : OwnC Z h0 n0 a1 sz g) (hsz : sz ≤ 3) :
    MetFree l (⟨"com/example/shuntyard/shuntyard/table/Cards", "add", "(I)V"⟩ : MethodName) (head1 (Jvm.Cond.code (⟨"com/example/shuntyard/shuntyard/table/Cards", "add", "(I)V"⟩ : MethodName) prog_7_method_6_code 2 none :: ws) ({ frames := 2, cells := 1, slots := 6, locals := 57 } : Room)) (fun a U => a = #[(.ref a1), (.int p2)] ∧ Z.Warmed39 U.vm ∧ U.heap = h0) (fun _ _ _ _ _ => True) (fun _ U o U' => ∃ v L, o = .returned v ∧ (Q5 Z a1 p2 sz g h0 n0) v U'.heap L ∧ FrameEnd U o U' L ({ frames := 2, cells := 1, slots := 6, locals := 57 } : Room).cells ({ frames := 2, cells := 1, slots := 6, locals := 57 } : Room).slots) := by
  refine MetFree.of_bodySF (plainFor_of_name pn_5) hisR ?_
  intro p e s m args below meth c s₁ Bd hml0 hP hK
  obtain ⟨rfl, hZ, hh⟩ := hP
  have hx := Bd.exec
  have hby := Bd.bytes
  have hml : c.maxLocals = 2 := hml0
  have hown : s.vm.findClass "com/example/shuntyard/shuntyard/table/Cards" = some m.cls := (findClass_of_methodNamed Bd.named :)
  have hnm := (name_of_methodNamed Bd.named Bd.method).1
  have X0 : Stand p l e ({ frames := 2, cells := 1, slots := 6, locals := 57 } : Room) s m #[(.ref a1), (.int p2)] below meth c s₁ [] 0 0 := Stand.of_body Bd
  have e0 : s₁.heap = h0 := by rw [← hh, Bd.state]; rfl
  have N0 := Fr.nil n0
  obtain ⟨Zs, ga, E1, Fs, t, cap, f, Fi, V, gt, ne, hq1, hq3, hg⟩ := S1
  have B33 : ∀ (T : State) (Lx : List Loc) (t' : Addr) (cap' : Nat) (f' : Nat → Int32), Stand p l e ({ frames := 2, cells := 1, slots := 6, locals := 57 } : Room) s m #[(.ref a1), (.int p2)] below meth c T Lx 1 6 → n0 ≤ T.heap.size → Exa Z T.heap a1 "com/example/shuntyard/shuntyard/table/Cards" → Fld Z T.heap a1 "com/example/shuntyard/shuntyard/table/Cards" "size" "I" (.int (Int32.ofNat sz)) → Fld Z T.heap a1 "com/example/shuntyard/shuntyard/table/Cards" "cards" "[I" (.ref t') → OwnA Z T.heap t' cap' f' → n0 ≤ t' → a1 ≠ t' → sz < cap' → cap' ≤ 6 → (∀ i, i < sz → f' i = g i) → Fr n0 Lx → OwnG p.tables e below s ({ frames := 2, cells := 1, slots := 6, locals := 57 } : Room) (Q5 Z a1 p2 sz g h0 n0) (T.setTop (mkF m 33 #[.val (.ref a1), .val (.int p2)] [])) := by
    intro T Lx t' cap' f' X Z9 E9 Fs9 Fi9 V9 gt9 ne9 hc9 hc8 hg9 NN
    show OwnG _ _ _ _ _ _ (T.setTop (mkF m 33 #[.val (.ref a1), .val (.int p2)] []))
    refine OwnG.go (fun _ kz => XS.aloadN X.here hx rfl (hb hby d5_33) rfl rfl kz) ?_
    show OwnG _ _ _ _ _ _ (T.setTop (mkF m 34 #[.val (.ref a1), .val (.int p2)] [(.ref a1)]))
    obtain ⟨T1, X1, e1, st1⟩ := getF X hx hZ hown (host := "") (Or.inl (hw _ (List.mem_of_getElem? (i := 10) rfl))) Via.refl (rfl : T.heap = T.heap) Fi9 (g := (mkF m 34 #[.val (.ref a1), .val (.int p2)] [(.ref a1)])) rfl rfl (hb hby d5_34)
    refine OwnG.go st1 ?_
    show OwnG _ _ _ _ _ _ (T1.setTop (mkF m 37 #[.val (.ref a1), .val (.int p2)] [(.ref t')]))
    refine OwnG.go (fun _ kz => XS.aloadN X1.here hx rfl (hb hby d5_37) rfl rfl kz) ?_
    show OwnG _ _ _ _ _ _ (T1.setTop (mkF m 38 #[.val (.ref a1), .val (.int p2)] [(.ref a1), (.ref t')]))
    refine OwnG.go (fun _ kz => XS.dup X1.here hx rfl (hb hby d5_38) rfl rfl kz) ?_
    show OwnG _ _ _ _ _ _ (T1.setTop (mkF m 39 #[.val (.ref a1), .val (.int p2)] [(.ref a1), (.ref a1), (.ref t')]))
    obtain ⟨T2, X2, e2, st2⟩ := getF X1 hx hZ hown (host := "") (Or.inl (hw _ (List.mem_of_getElem? (i := 21) rfl))) Via.refl e1 Fs9 (g := (mkF m 39 #[.val (.ref a1), .val (.int p2)] [(.ref a1), (.ref a1), (.ref t')])) rfl rfl (hb hby d5_39)
    refine OwnG.go st2 ?_
    show OwnG _ _ _ _ _ _ (T2.setTop (mkF m 42 #[.val (.ref a1), .val (.int p2)] [(.int (Int32.ofNat sz)), (.ref a1), (.ref t')]))
    refine OwnG.go (fun _ kz => XS.dupX1 X2.here hx rfl (hb hby d5_42) rfl rfl rfl kz) ?_
    show OwnG _ _ _ _ _ _ (T2.setTop (mkF m 43 #[.val (.ref a1), .val (.int p2)] [(.int (Int32.ofNat sz)), (.ref a1), (.int (Int32.ofNat sz)), (.ref t')]))
    refine OwnG.go (fun _ kz => XS.iconst X2.here hx rfl (hb hby d5_43) kz) ?_
    show OwnG _ _ _ _ _ _ (T2.setTop (mkF m 44 #[.val (.ref a1), .val (.int p2)] [(.int (1 : Int32)), (.int (Int32.ofNat sz)), (.ref a1), (.int (Int32.ofNat sz)), (.ref t')]))
    refine OwnG.go (fun _ kz => XS.iadd X2.here hx rfl (hb hby d5_44) rfl kz) ?_
    show OwnG _ _ _ _ _ _ (T2.setTop (mkF m 45 #[.val (.ref a1), .val (.int p2)] [(.int ((Int32.ofNat sz) + (1 : Int32))), (.ref a1), (.int (Int32.ofNat sz)), (.ref t')]))
    rw [own_one]
    show OwnG _ _ _ _ _ _ (T2.setTop (mkF m 45 #[.val (.ref a1), .val (.int p2)] [(.int (Int32.ofNat (sz + 1))), (.ref a1), (.int (Int32.ofNat sz)), (.ref t')]))
    obtain ⟨T3, h3, X3, e3, W3, st3⟩ := putF X2 hx hZ hown (host := "") (Or.inl (hw _ (List.mem_of_getElem? (i := 21) rfl))) Via.refl e2 Fs9 E9 (Or.inl (hw _ (List.mem_of_getElem? (i := 22) rfl))) (hw _ (List.mem_of_getElem? (i := 1) rfl)) (ty := .int) (by decide) rfl rfl (g := (mkF m 45 #[.val (.ref a1), .val (.int p2)] [(.int (Int32.ofNat (sz + 1))), (.ref a1), (.int (Int32.ofNat sz)), (.ref t')])) rfl rfl (hb hby d5_45)
    have Fw3 := Fs9.same W3
    have N3 := Fr.snoc X3 NN ga
    refine OwnG.go st3 ?_
    show OwnG _ _ _ _ _ _ (T3.setTop (mkF m 48 #[.val (.ref a1), .val (.int p2)] [(.int (Int32.ofNat sz)), (.ref t')]))
    have E8 := E9.wr W3
    have Fi8 := Fi9.other W3 (Or.inr (slot_ne (Or.inl (hw _ (List.mem_of_getElem? (i := 11) rfl))) (Or.inl (hw _ (List.mem_of_getElem? (i := 22) rfl))) (by decide) (t := (.array .int)) (t' := .int) (by decide) (by decide)))
    have V8 := V9.other W3 (Ne.symm ne9)
    have Z8 := Nat.le_trans Z9 (Keep.of_wr W3).1
    obtain ⟨cl, Ar, Sa, Ha⟩ := V8
    refine OwnG.go (fun _ kz => XS.iloadN X3.here hx rfl (hb hby d5_48) rfl kz) ?_
    show OwnG _ _ _ _ _ _ (T3.setTop (mkF m 49 #[.val (.ref a1), .val (.int p2)] [(.int p2), (.int (Int32.ofNat sz)), (.ref t')]))
    obtain ⟨T4, h4, X4, e4, W4, st4⟩ := stI X3 hx hZ e3 Ar (j := (Int32.ofNat sz)) (own_inb Sa hc9 (by omega)) (g := (mkF m 49 #[.val (.ref a1), .val (.int p2)] [(.int p2), (.int (Int32.ofNat sz)), (.ref t')])) rfl rfl (hb hby d5_49)
    have N4 := Fr.snoc X4 N3 gt9
    refine OwnG.go st4 ?_
    show OwnG _ _ _ _ _ _ (T4.setTop (mkF m 50 #[.val (.ref a1), .val (.int p2)] []))
    have V7 := OwnA.set Ar Sa Ha hc9 (by omega) W4
    obtain ⟨fs, hr, hrun, hended, hW, hsame⟩ := X4.leave (v := none) (fun _ => rfl)
    refine ⟨_, _, X4.returnOut hx Bd.returns (hb hby d5_50) hr, hrun, hended, _, _, rfl, ?_, ⟨_, rfl⟩, hW, hsame.mono (by decide) (by decide)⟩
    show (Q5 Z a1 p2 sz g h0 n0) _ T4.heap _
    rw [e4]
    exact ⟨rfl, N4, Nat.le_trans Z8 (Keep.of_wr W4).1, ga, E8.wr W4, Fw3.other W4 (Or.inl ne9), t', cap', _, Fi8.other W4 (Or.inl ne9), V7, gt9, ne9, by omega, hc8, fun i hi => by
          by_cases u : i = sz
          · simp [u]
          · simp only [if_neg u]; exact hg9 i (by omega)⟩
  show OwnG p.tables e below s ({ frames := 2, cells := 1, slots := 6, locals := 57 } : Room) (Q5 Z a1 p2 sz g h0 n0) (s₁.setTop (entryFrame m #[(.ref a1), (.int p2)] 2))
  refine OwnG.go (fun tz kz => castTop (ef_5 m a1 p2) kz) ?_
  show OwnG _ _ _ _ _ _ (s₁.setTop (mkF m 0 #[.val (.ref a1), .val (.int p2)] []))
  refine OwnG.go (fun _ kz => XS.aloadN X0.here hx rfl (hb hby d5_0) rfl rfl kz) ?_
  show OwnG _ _ _ _ _ _ (s₁.setTop (mkF m 1 #[.val (.ref a1), .val (.int p2)] [(.ref a1)]))
  obtain ⟨T5, X5, e5, st5⟩ := getF X0 hx hZ hown (host := "") (Or.inl (hw _ (List.mem_of_getElem? (i := 21) rfl))) Via.refl e0 Fs (g := (mkF m 1 #[.val (.ref a1), .val (.int p2)] [(.ref a1)])) rfl rfl (hb hby d5_1)
  refine OwnG.go st5 ?_
  show OwnG _ _ _ _ _ _ (T5.setTop (mkF m 4 #[.val (.ref a1), .val (.int p2)] [(.int (Int32.ofNat sz))]))
  refine OwnG.go (fun _ kz => XS.aloadN X5.here hx rfl (hb hby d5_4) rfl rfl kz) ?_
  show OwnG _ _ _ _ _ _ (T5.setTop (mkF m 5 #[.val (.ref a1), .val (.int p2)] [(.ref a1), (.int (Int32.ofNat sz))]))
  obtain ⟨T6, X6, e6, st6⟩ := getF X5 hx hZ hown (host := "") (Or.inl (hw _ (List.mem_of_getElem? (i := 10) rfl))) Via.refl e5 Fi (g := (mkF m 5 #[.val (.ref a1), .val (.int p2)] [(.ref a1), (.int (Int32.ofNat sz))])) rfl rfl (hb hby d5_5)
  refine OwnG.go st6 ?_
  show OwnG _ _ _ _ _ _ (T6.setTop (mkF m 8 #[.val (.ref a1), .val (.int p2)] [(.ref t), (.int (Int32.ofNat sz))]))
  obtain ⟨cl, Ar, Sa, Ha⟩ := id V
  refine OwnG.go (fun _ kz => X6.arraylength hx (by rw [e6]; exact Ar.1) (State.isArrayOf_alike hZ.alike Ar.2.1) (g := (mkF m 8 #[.val (.ref a1), .val (.int p2)] [(.ref t), (.int (Int32.ofNat sz))])) rfl rfl (hb hby d5_8) _ kz) ?_
  rw [Sa]
  show OwnG _ _ _ _ _ _ (T6.setTop (mkF m 9 #[.val (.ref a1), .val (.int p2)] [(.int (Int32.ofNat cap)), (.int (Int32.ofNat sz))]))
  by_cases c1 : (Int32.ofNat sz) = (Int32.ofNat cap)
  · have _u := ()
    refine OwnG.go (fun _ kz => XS.icmpNo X6.here hx rfl (hb hby d5_9) rfl (teq c1).2 kz) ?_
    show OwnG _ _ _ _ _ _ (T6.setTop (mkF m 12 #[.val (.ref a1), .val (.int p2)] []))
    have hc : sz = cap := (own_eq (by omega) (by omega)).mp c1
    refine OwnG.go (fun _ kz => XS.aloadN X6.here hx rfl (hb hby d5_12) rfl rfl kz) ?_
    show OwnG _ _ _ _ _ _ (T6.setTop (mkF m 13 #[.val (.ref a1), .val (.int p2)] [(.ref a1)]))
    refine OwnG.go (fun _ kz => XS.aloadN X6.here hx rfl (hb hby d5_13) rfl rfl kz) ?_
    show OwnG _ _ _ _ _ _ (T6.setTop (mkF m 14 #[.val (.ref a1), .val (.int p2)] [(.ref a1), (.ref a1)]))
    obtain ⟨T7, X7, e7, st7⟩ := getF X6 hx hZ hown (host := "") (Or.inl (hw _ (List.mem_of_getElem? (i := 10) rfl))) Via.refl e6 Fi (g := (mkF m 14 #[.val (.ref a1), .val (.int p2)] [(.ref a1), (.ref a1)])) rfl rfl (hb hby d5_14)
    refine OwnG.go st7 ?_
    show OwnG _ _ _ _ _ _ (T7.setTop (mkF m 17 #[.val (.ref a1), .val (.int p2)] [(.ref t), (.ref a1)]))
    refine OwnG.go (fun _ kz => XS.iconst X7.here hx rfl (hb hby d5_17) kz) ?_
    show OwnG _ _ _ _ _ _ (T7.setTop (mkF m 18 #[.val (.ref a1), .val (.int p2)] [(.int (1 : Int32)), (.ref t), (.ref a1)]))
    refine OwnG.go (fun _ kz => XS.iconst X7.here hx rfl (hb hby d5_18) kz) ?_
    show OwnG _ _ _ _ _ _ (T7.setTop (mkF m 19 #[.val (.ref a1), .val (.int p2)] [(.int (2 : Int32)), (.int (1 : Int32)), (.ref t), (.ref a1)]))
    refine OwnG.go (fun _ kz => XS.aloadN X7.here hx rfl (hb hby d5_19) rfl rfl kz) ?_
    show OwnG _ _ _ _ _ _ (T7.setTop (mkF m 20 #[.val (.ref a1), .val (.int p2)] [(.ref a1), (.int (2 : Int32)), (.int (1 : Int32)), (.ref t), (.ref a1)]))
    obtain ⟨T8, X8, e8, st8⟩ := getF X7 hx hZ hown (host := "") (Or.inl (hw _ (List.mem_of_getElem? (i := 21) rfl))) Via.refl e7 Fs (g := (mkF m 20 #[.val (.ref a1), .val (.int p2)] [(.ref a1), (.int (2 : Int32)), (.int (1 : Int32)), (.ref t), (.ref a1)])) rfl rfl (hb hby d5_20)
    refine OwnG.go st8 ?_
    show OwnG _ _ _ _ _ _ (T8.setTop (mkF m 23 #[.val (.ref a1), .val (.int p2)] [(.int (Int32.ofNat sz)), (.int (2 : Int32)), (.int (1 : Int32)), (.ref t), (.ref a1)]))
    refine OwnG.go (fun _ kz => XS.imul X8.here hx rfl (hb hby d5_23) rfl kz) ?_
    show OwnG _ _ _ _ _ _ (T8.setTop (mkF m 24 #[.val (.ref a1), .val (.int p2)] [(.int ((2 : Int32) * (Int32.ofNat sz))), (.int (1 : Int32)), (.ref t), (.ref a1)]))
    rw [own_dbl']
    show OwnG _ _ _ _ _ _ (T8.setTop (mkF m 24 #[.val (.ref a1), .val (.int p2)] [(.int (Int32.ofNat (2 * sz))), (.int (1 : Int32)), (.ref t), (.ref a1)]))
    obtain ⟨_, _, ⟨T9, L9, k9, n9⟩, -, X9, ⟨Lc9, hQ9, l9, y9, z9⟩, st9⟩ := Jvm.LawKit.callS X8 hx (y := (⟨"java/lang/Math", "max", "(II)I"⟩ : MethodName)) hown (mvT hZ (hw _ (List.mem_of_getElem? (i := 28) rfl))) (mvT hZ (hw _ (List.mem_of_getElem? (i := 29) rfl))) (mvT hZ (hw _ (List.mem_of_getElem? (i := 30) rfl))) (mvT hZ (hw _ (List.mem_of_getElem? (i := 31) rfl))) (by decide) (backOf (W := 2) (rm6 l Z a0 hw [] (1 : Int32) (Int32.ofNat (2 * sz)) h0 n0 Z0) hZ (hw _ (List.mem_of_getElem? (i := 31) rfl)) (hw _ (List.mem_of_getElem? (i := 30) rfl)) (by decide) (by decide)) (g := (mkF m 24 #[.val (.ref a1), .val (.int p2)] [(.int (Int32.ofNat (2 * sz))), (.int (1 : Int32)), (.ref t), (.ref a1)])) rfl (by rw [hml]; rfl) (argsL := [(.int (1 : Int32)), (.int (Int32.ofNat (2 * sz)))]) (rest := [(.ref t), (.ref a1)]) (lenOf pd_6 rfl) rfl (by show 2 * 0 + _ ≤ _; exact Nat.le_of_eq rfl) (hb hby d5_24) (fun _ _ => ⟨rfl, e8, (by decide : 0 + 0 ≤ _), (by decide : 0 + 0 ≤ _)⟩)
    dsimp only [Pt.U, Pt.locs, Pt.cells, Pt.slots] at X9 l9 y9 z9 st9 hQ9
    subst l9 y9 z9
    obtain ⟨rfl, N9q, hh9⟩ := hQ9
    have N9 := Fr.app N0 N9q
    refine OwnG.go (fun tz kz => st9 tz kz) ?_
    show OwnG _ _ _ _ _ _ (T9.setTop (mkF m 27 #[.val (.ref a1), .val (.int p2)] [(.int (own_max (1 : Int32) (Int32.ofNat (2 * sz)))), (.ref t), (.ref a1)]))
    rw [show own_max (1 : Int32) (Int32.ofNat (2 * sz)) = Int32.ofNat (max 1 (2 * sz)) from own_max_n (i := 1) (by decide) (by omega)]
    show OwnG _ _ _ _ _ _ (T9.setTop (mkF m 27 #[.val (.ref a1), .val (.int p2)] [(.int (Int32.ofNat (max 1 (2 * sz)))), (.ref t), (.ref a1)]))
    obtain ⟨_, _, ⟨T10, L10, k10, n10⟩, -, X10, ⟨Lc10, hQ10, l10, y10, z10⟩, st10⟩ := Jvm.LawKit.callS X9 hx (y := (⟨"java/util/Arrays", "copyOf", "([II)[I"⟩ : MethodName)) hown (mvT hZ (hw _ (List.mem_of_getElem? (i := 32) rfl))) (mvT hZ (hw _ (List.mem_of_getElem? (i := 33) rfl))) (mvT hZ (hw _ (List.mem_of_getElem? (i := 34) rfl))) (mvT hZ (hw _ (List.mem_of_getElem? (i := 35) rfl))) (by decide) (backOf (W := 1) (rm7 l Z a0 hw [] t cap (max 1 (2 * sz)) f h0 n0 Z0 V (by omega) (by omega)) hZ (hw _ (List.mem_of_getElem? (i := 35) rfl)) (hw _ (List.mem_of_getElem? (i := 34) rfl)) (by decide) (by decide)) (g := (mkF m 27 #[.val (.ref a1), .val (.int p2)] [(.int (Int32.ofNat (max 1 (2 * sz)))), (.ref t), (.ref a1)])) rfl (by rw [hml]; rfl) (argsL := [(.ref t), (.int (Int32.ofNat (max 1 (2 * sz))))]) (rest := [(.ref a1)]) (lenOf pd_7 rfl) rfl (by show 2 * 0 + _ ≤ _; exact Nat.le_of_eq rfl) (hb hby d5_27) (fun _ _ => ⟨rfl, hh9, (by decide : 0 + 1 ≤ _), (by decide : 0 + 6 ≤ _)⟩)
    dsimp only [Pt.U, Pt.locs, Pt.cells, Pt.slots] at X10 l10 y10 z10 st10 hQ10
    subst l10 y10 z10
    obtain ⟨rfl, N10q, K10, V10⟩ := hQ10
    have N10 := Fr.app N9 N10q
    refine OwnG.go (fun tz kz => st10 tz kz) ?_
    show OwnG _ _ _ _ _ _ (T10.setTop (mkF m 30 #[.val (.ref a1), .val (.int p2)] [(.ref h0.size), (.ref a1)]))
    have Ea := E1.keep K10
    have Fi2 := Fi.keep K10 nin0
    have Fs2 := Fs.keep K10 nin0
    have nez : a1 ≠ h0.size := Nat.ne_of_lt E1.lt
    obtain ⟨T11, h11, X11, e11, W11, st11⟩ := putF X10 hx hZ hown (host := "") (Or.inl (hw _ (List.mem_of_getElem? (i := 10) rfl))) Via.refl (rfl : T10.heap = T10.heap) Fi2 Ea (Or.inl (hw _ (List.mem_of_getElem? (i := 11) rfl))) (hw _ (List.mem_of_getElem? (i := 1) rfl)) (ty := (.array .int)) (by decide) rfl rfl (g := (mkF m 30 #[.val (.ref a1), .val (.int p2)] [(.ref h0.size), (.ref a1)])) rfl rfl (hb hby d5_30)
    have Fw11 := Fi2.same W11
    have N11 := Fr.snoc X11 N10 ga
    refine OwnG.go st11 ?_
    show OwnG _ _ _ _ _ _ (T11.setTop (mkF m 33 #[.val (.ref a1), .val (.int p2)] []))
    exact B33 _ _ h0.size (max 1 (2 * sz)) _ X11 (e11 ▸ Nat.le_trans (Nat.le_trans Z0 K10.1) (Keep.of_wr W11).1) (e11 ▸ Ea.wr W11) (e11 ▸ Fs2.other W11 (Or.inr (slot_ne (Or.inl (hw _ (List.mem_of_getElem? (i := 22) rfl))) (Or.inl (hw _ (List.mem_of_getElem? (i := 11) rfl))) (by decide) (t := .int) (t' := (.array .int)) (by decide) (by decide)))) (e11 ▸ Fw11) (e11 ▸ V10.other W11 (Ne.symm nez)) Z0 nez (by omega) (by omega) (fun i hi => by simp only [if_pos (show i < cap by omega)]; exact hg i hi) N11
  · have _u := ()
    refine OwnG.go (fun _ kz => XS.icmpYes X6.here hx rfl (pc0 := 9) (pc' := 33) rfl (hb hby d5_9) rfl (feq c1).2 (by decide) (by decide) kz) ?_
    show OwnG _ _ _ _ _ _ (T6.setTop (mkF m 33 #[.val (.ref a1), .val (.int p2)] []))
    have hc : sz < cap := by
      have : ¬ sz = cap := fun q => c1 (by rw [q])
      omega
    exact B33 _ _ t cap f (own_stand X6 (by decide) (by decide)) (e6 ▸ Z0) (e6 ▸ E1) (e6 ▸ Fs) (e6 ▸ Fi) (e6 ▸ V) gt ne hc hq3 hg N0
theorem d10_0 : decode prog_7_method_17_code 0 = .ok (.iload_n 1, 1) := by decide +kernel
theorem d10_1 : decode prog_7_method_17_code 1 = .ok (.ifCond .lt 11, 3) := by decide +kernel
theorem d10_4 : decode prog_7_method_17_code 4 = .ok (.iload_n 1, 1) := by decide +kernel
theorem d10_5 : decode prog_7_method_17_code 5 = .ok (.aload_n 0, 1) := by decide +kernel
theorem d10_6 : decode prog_7_method_17_code 6 = .ok (.getfield 13, 3) := by decide +kernel
theorem d10_9 : decode prog_7_method_17_code 9 = .ok (.if_icmp .lt 37, 3) := by decide +kernel
theorem d10_12 : decode prog_7_method_17_code 12 = .ok (.new 69, 3) := by decide +kernel
theorem d10_15 : decode prog_7_method_17_code 15 = .ok (.dup, 1) := by decide +kernel
theorem d10_16 : decode prog_7_method_17_code 16 = .ok (.ldc 71, 2) := by decide +kernel
theorem d10_18 : decode prog_7_method_17_code 18 = .ok (.iconst 2, 1) := by decide +kernel
theorem d10_19 : decode prog_7_method_17_code 19 = .ok (.anewarray 2, 3) := by decide +kernel
theorem d10_22 : decode prog_7_method_17_code 22 = .ok (.dup, 1) := by decide +kernel
theorem d10_23 : decode prog_7_method_17_code 23 = .ok (.iconst 0, 1) := by decide +kernel
theorem d10_24 : decode prog_7_method_17_code 24 = .ok (.iload_n 1, 1) := by decide +kernel
theorem d10_25 : decode prog_7_method_17_code 25 = .ok (.invokestatic 59, 3) := by decide +kernel
theorem d10_28 : decode prog_7_method_17_code 28 = .ok (.aastore, 1) := by decide +kernel
theorem d10_29 : decode prog_7_method_17_code 29 = .ok (.dup, 1) := by decide +kernel
theorem d10_30 : decode prog_7_method_17_code 30 = .ok (.iconst 1, 1) := by decide +kernel
theorem d10_31 : decode prog_7_method_17_code 31 = .ok (.aload_n 0, 1) := by decide +kernel
theorem d10_32 : decode prog_7_method_17_code 32 = .ok (.getfield 13, 3) := by decide +kernel
theorem d10_35 : decode prog_7_method_17_code 35 = .ok (.invokestatic 59, 3) := by decide +kernel
theorem d10_38 : decode prog_7_method_17_code 38 = .ok (.aastore, 1) := by decide +kernel
theorem d10_39 : decode prog_7_method_17_code 39 = .ok (.invokestatic 73, 3) := by decide +kernel
theorem d10_42 : decode prog_7_method_17_code 42 = .ok (.invokespecial 79, 3) := by decide +kernel
theorem d10_45 : decode prog_7_method_17_code 45 = .ok (.athrow, 1) := by decide +kernel
theorem d10_46 : decode prog_7_method_17_code 46 = .ok (.iload_n 1, 1) := by decide +kernel
theorem d10_47 : decode prog_7_method_17_code 47 = .ok (.ireturn, 1) := by decide +kernel
theorem pn_10 : plainName "com/example/shuntyard/shuntyard/table/Cards" = true := by first | (simp [plainName, overriddenIn]; done) | decide +kernel
theorem ef_10 (m : MethodId) (x0 : Addr) (x1 : Int32) : entryFrame m #[(.ref x0), (.int x1)] 2 = mkF m 0 #[.val (.ref x0), .val (.int x1)] [] := by first | (simp [entryFrame, mkF, argsToLocals, Value.category]; done) | rfl
def Q10 (Z : State) (a1 : Addr) (j sz : Nat) (h0 : Heap) (n0 : Nat) (v : Option Value) (h : Heap) (L : List Loc) : Prop := v = some (.int (Int32.ofNat j)) ∧ Fr n0 L ∧ h = h0
set_option maxRecDepth 65536 in
set_option maxHeartbeats 40000000 in
theorem rm10 (l : Launch) (Z : State) (a0 : Array Value) (hw : ∀ d ∈ tables_1, d.before a0 Z = true) (ws : List Jvm.Cond) (a1 : Addr) (j sz : Nat) (h0 : Heap) (n0 : Nat) (Z0 : n0 ≤ h0.size) (Fs : Fld Z h0 a1 "com/example/shuntyard/shuntyard/table/Cards" "size" "I" (.int (Int32.ofNat sz))) (hj : j < sz) (hsz : sz ≤ 6) :
    MetFree l (⟨"com/example/shuntyard/shuntyard/table/Cards", "checkIndex", "(I)I"⟩ : MethodName) (head1 (Jvm.Cond.code (⟨"com/example/shuntyard/shuntyard/table/Cards", "checkIndex", "(I)I"⟩ : MethodName) prog_7_method_17_code 2 (some .int) :: ws) ({ frames := 0, cells := 0, slots := 0, locals := 0 } : Room)) (fun a U => a = #[(.ref a1), (.int (Int32.ofNat j))] ∧ Z.Warmed39 U.vm ∧ U.heap = h0) (fun _ _ _ _ _ => True) (fun _ U o U' => ∃ v L, o = .returned v ∧ (Q10 Z a1 j sz h0 n0) v U'.heap L ∧ FrameEnd U o U' L ({ frames := 0, cells := 0, slots := 0, locals := 0 } : Room).cells ({ frames := 0, cells := 0, slots := 0, locals := 0 } : Room).slots) := by
  refine MetFree.of_bodySF (plainFor_of_name pn_10) hisR ?_
  intro p e s m args below meth c s₁ Bd hml0 hP hK
  obtain ⟨rfl, hZ, hh⟩ := hP
  have hx := Bd.exec
  have hby := Bd.bytes
  have hml : c.maxLocals = 2 := hml0
  have hown : s.vm.findClass "com/example/shuntyard/shuntyard/table/Cards" = some m.cls := (findClass_of_methodNamed Bd.named :)
  have hnm := (name_of_methodNamed Bd.named Bd.method).1
  have X0 : Stand p l e ({ frames := 0, cells := 0, slots := 0, locals := 0 } : Room) s m #[(.ref a1), (.int (Int32.ofNat j))] below meth c s₁ [] 0 0 := Stand.of_body Bd
  have e0 : s₁.heap = h0 := by rw [← hh, Bd.state]; rfl
  have N0 := Fr.nil n0
  show OwnG p.tables e below s ({ frames := 0, cells := 0, slots := 0, locals := 0 } : Room) (Q10 Z a1 j sz h0 n0) (s₁.setTop (entryFrame m #[(.ref a1), (.int (Int32.ofNat j))] 2))
  refine OwnG.go (fun tz kz => castTop (ef_10 m a1 (Int32.ofNat j)) kz) ?_
  show OwnG _ _ _ _ _ _ (s₁.setTop (mkF m 0 #[.val (.ref a1), .val (.int (Int32.ofNat j))] []))
  refine OwnG.go (fun _ kz => XS.iloadN X0.here hx rfl (hb hby d10_0) rfl kz) ?_
  show OwnG _ _ _ _ _ _ (s₁.setTop (mkF m 1 #[.val (.ref a1), .val (.int (Int32.ofNat j))] [(.int (Int32.ofNat j))]))
  refine OwnG.go (fun _ kz => XS.ifNo X0.here hx rfl (hb hby d10_1) rfl ((if0 _ _).trans (flt (own_nneg (by omega))).1) kz) ?_
  show OwnG _ _ _ _ _ _ (s₁.setTop (mkF m 4 #[.val (.ref a1), .val (.int (Int32.ofNat j))] []))
  refine OwnG.go (fun _ kz => XS.iloadN X0.here hx rfl (hb hby d10_4) rfl kz) ?_
  show OwnG _ _ _ _ _ _ (s₁.setTop (mkF m 5 #[.val (.ref a1), .val (.int (Int32.ofNat j))] [(.int (Int32.ofNat j))]))
  refine OwnG.go (fun _ kz => XS.aloadN X0.here hx rfl (hb hby d10_5) rfl rfl kz) ?_
  show OwnG _ _ _ _ _ _ (s₁.setTop (mkF m 6 #[.val (.ref a1), .val (.int (Int32.ofNat j))] [(.ref a1), (.int (Int32.ofNat j))]))
  obtain ⟨T1, X1, e1, st1⟩ := getF X0 hx hZ hown (host := "") (Or.inl (hw _ (List.mem_of_getElem? (i := 21) rfl))) Via.refl e0 Fs (g := (mkF m 6 #[.val (.ref a1), .val (.int (Int32.ofNat j))] [(.ref a1), (.int (Int32.ofNat j))])) rfl rfl (hb hby d10_6)
  refine OwnG.go st1 ?_
  show OwnG _ _ _ _ _ _ (T1.setTop (mkF m 9 #[.val (.ref a1), .val (.int (Int32.ofNat j))] [(.int (Int32.ofNat sz)), (.int (Int32.ofNat j))]))
  refine OwnG.go (fun _ kz => XS.icmpYes X1.here hx rfl (pc0 := 9) (pc' := 46) rfl (hb hby d10_9) rfl (tlt ((own_lt (by omega) (by omega)).mpr hj)).1 (by decide) (by decide) kz) ?_
  show OwnG _ _ _ _ _ _ (T1.setTop (mkF m 46 #[.val (.ref a1), .val (.int (Int32.ofNat j))] []))
  refine OwnG.go (fun _ kz => XS.iloadN X1.here hx rfl (hb hby d10_46) rfl kz) ?_
  show OwnG _ _ _ _ _ _ (T1.setTop (mkF m 47 #[.val (.ref a1), .val (.int (Int32.ofNat j))] [(.int (Int32.ofNat j))]))
  obtain ⟨fs, hr, hrun, hended, hW, hsame⟩ := X1.leave (v := some (.int (Int32.ofNat j))) (fun h => by rw [Bd.returns] at h; cases h)
  refine ⟨_, _, retI X1 hx Bd.returns (hb hby d10_47) hr, hrun, hended, _, _, rfl, ?_, ⟨_, rfl⟩, hW, hsame.mono (by decide) (by decide)⟩
  show (Q10 Z a1 j sz h0 n0) _ T1.heap _
  rw [e1]
  exact ⟨rfl, N0, rfl⟩
theorem d9_0 : decode prog_7_method_10_code 0 = .ok (.aload_n 0, 1) := by decide +kernel
theorem d9_1 : decode prog_7_method_10_code 1 = .ok (.getfield 7, 3) := by decide +kernel
theorem d9_4 : decode prog_7_method_10_code 4 = .ok (.aload_n 0, 1) := by decide +kernel
theorem d9_5 : decode prog_7_method_10_code 5 = .ok (.aload_n 0, 1) := by decide +kernel
theorem d9_6 : decode prog_7_method_10_code 6 = .ok (.getfield 13, 3) := by decide +kernel
theorem d9_9 : decode prog_7_method_10_code 9 = .ok (.iconst 1, 1) := by decide +kernel
theorem d9_10 : decode prog_7_method_10_code 10 = .ok (.isub, 1) := by decide +kernel
theorem d9_11 : decode prog_7_method_10_code 11 = .ok (.invokevirtual 17, 3) := by decide +kernel
theorem d9_14 : decode prog_7_method_10_code 14 = .ok (.iaload, 1) := by decide +kernel
theorem d9_15 : decode prog_7_method_10_code 15 = .ok (.istore_n 1, 1) := by decide +kernel
theorem d9_16 : decode prog_7_method_10_code 16 = .ok (.aload_n 0, 1) := by decide +kernel
theorem d9_17 : decode prog_7_method_10_code 17 = .ok (.dup, 1) := by decide +kernel
theorem d9_18 : decode prog_7_method_10_code 18 = .ok (.getfield 13, 3) := by decide +kernel
theorem d9_21 : decode prog_7_method_10_code 21 = .ok (.iconst 1, 1) := by decide +kernel
theorem d9_22 : decode prog_7_method_10_code 22 = .ok (.isub, 1) := by decide +kernel
theorem d9_23 : decode prog_7_method_10_code 23 = .ok (.putfield 13, 3) := by decide +kernel
theorem d9_26 : decode prog_7_method_10_code 26 = .ok (.iload_n 1, 1) := by decide +kernel
theorem d9_27 : decode prog_7_method_10_code 27 = .ok (.ireturn, 1) := by decide +kernel
theorem pn_9 : plainName "com/example/shuntyard/shuntyard/table/Cards" = true := by first | (simp [plainName, overriddenIn]; done) | decide +kernel
theorem ef_9 (m : MethodId) (x0 : Addr) : entryFrame m #[(.ref x0)] 2 = mkF m 0 #[.val (.ref x0), .unset] [] := by first | (simp [entryFrame, mkF, argsToLocals, Value.category]; done) | rfl
def Q9 (Z : State) (a1 : Addr) (sz : Nat) (g : Nat → Int32) (h0 : Heap) (n0 : Nat) (v : Option Value) (h : Heap) (L : List Loc) : Prop := (∃ y, v = some (.int y)) ∧ Fr n0 L ∧ OwnC Z h n0 a1 (sz - 1) g
set_option maxRecDepth 65536 in
set_option maxHeartbeats 40000000 in
theorem rm9 (l : Launch) (Z : State) (a0 : Array Value) (hw : ∀ d ∈ tables_1, d.before a0 Z = true) (ws : List Jvm.Cond) (a1 : Addr) (sz : Nat) (g : Nat → Int32) (h0 : Heap) (n0 : Nat) (Z0 : n0 ≤ h0.size) (S1 : OwnC Z h0 n0 a1 sz g) (hsz : 1 ≤ sz) :
    MetFree l (⟨"com/example/shuntyard/shuntyard/table/Cards", "removeLast", "()I"⟩ : MethodName) (head1 (Jvm.Cond.code (⟨"com/example/shuntyard/shuntyard/table/Cards", "removeLast", "()I"⟩ : MethodName) prog_7_method_10_code 2 (some .int) :: ws) ({ frames := 1, cells := 0, slots := 0, locals := 14 } : Room)) (fun a U => a = #[(.ref a1)] ∧ Z.Warmed39 U.vm ∧ U.heap = h0) (fun _ _ _ _ _ => True) (fun _ U o U' => ∃ v L, o = .returned v ∧ (Q9 Z a1 sz g h0 n0) v U'.heap L ∧ FrameEnd U o U' L ({ frames := 1, cells := 0, slots := 0, locals := 14 } : Room).cells ({ frames := 1, cells := 0, slots := 0, locals := 14 } : Room).slots) := by
  refine MetFree.of_bodySF (plainFor_of_name pn_9) hisR ?_
  intro p e s m args below meth c s₁ Bd hml0 hP hK
  obtain ⟨rfl, hZ, hh⟩ := hP
  have hx := Bd.exec
  have hby := Bd.bytes
  have hml : c.maxLocals = 2 := hml0
  have hown : s.vm.findClass "com/example/shuntyard/shuntyard/table/Cards" = some m.cls := (findClass_of_methodNamed Bd.named :)
  have hnm := (name_of_methodNamed Bd.named Bd.method).1
  have X0 : Stand p l e ({ frames := 1, cells := 0, slots := 0, locals := 14 } : Room) s m #[(.ref a1)] below meth c s₁ [] 0 0 := Stand.of_body Bd
  have e0 : s₁.heap = h0 := by rw [← hh, Bd.state]; rfl
  have N0 := Fr.nil n0
  obtain ⟨Zs, ga, E1, Fs, t, cap, f, Fi, V, gt, ne, hq1, hq3, hg⟩ := S1
  show OwnG p.tables e below s ({ frames := 1, cells := 0, slots := 0, locals := 14 } : Room) (Q9 Z a1 sz g h0 n0) (s₁.setTop (entryFrame m #[(.ref a1)] 2))
  refine OwnG.go (fun tz kz => castTop (ef_9 m a1) kz) ?_
  show OwnG _ _ _ _ _ _ (s₁.setTop (mkF m 0 #[.val (.ref a1), .unset] []))
  refine OwnG.go (fun _ kz => XS.aloadN X0.here hx rfl (hb hby d9_0) rfl rfl kz) ?_
  show OwnG _ _ _ _ _ _ (s₁.setTop (mkF m 1 #[.val (.ref a1), .unset] [(.ref a1)]))
  obtain ⟨T1, X1, e1, st1⟩ := getF X0 hx hZ hown (host := "") (Or.inl (hw _ (List.mem_of_getElem? (i := 10) rfl))) Via.refl e0 Fi (g := (mkF m 1 #[.val (.ref a1), .unset] [(.ref a1)])) rfl rfl (hb hby d9_1)
  refine OwnG.go st1 ?_
  show OwnG _ _ _ _ _ _ (T1.setTop (mkF m 4 #[.val (.ref a1), .unset] [(.ref t)]))
  refine OwnG.go (fun _ kz => XS.aloadN X1.here hx rfl (hb hby d9_4) rfl rfl kz) ?_
  show OwnG _ _ _ _ _ _ (T1.setTop (mkF m 5 #[.val (.ref a1), .unset] [(.ref a1), (.ref t)]))
  refine OwnG.go (fun _ kz => XS.aloadN X1.here hx rfl (hb hby d9_5) rfl rfl kz) ?_
  show OwnG _ _ _ _ _ _ (T1.setTop (mkF m 6 #[.val (.ref a1), .unset] [(.ref a1), (.ref a1), (.ref t)]))
  obtain ⟨T2, X2, e2, st2⟩ := getF X1 hx hZ hown (host := "") (Or.inl (hw _ (List.mem_of_getElem? (i := 21) rfl))) Via.refl e1 Fs (g := (mkF m 6 #[.val (.ref a1), .unset] [(.ref a1), (.ref a1), (.ref t)])) rfl rfl (hb hby d9_6)
  refine OwnG.go st2 ?_
  show OwnG _ _ _ _ _ _ (T2.setTop (mkF m 9 #[.val (.ref a1), .unset] [(.int (Int32.ofNat sz)), (.ref a1), (.ref t)]))
  refine OwnG.go (fun _ kz => XS.iconst X2.here hx rfl (hb hby d9_9) kz) ?_
  show OwnG _ _ _ _ _ _ (T2.setTop (mkF m 10 #[.val (.ref a1), .unset] [(.int (1 : Int32)), (.int (Int32.ofNat sz)), (.ref a1), (.ref t)]))
  refine OwnG.go (fun _ kz => XS.isub X2.here hx rfl (hb hby d9_10) rfl kz) ?_
  show OwnG _ _ _ _ _ _ (T2.setTop (mkF m 11 #[.val (.ref a1), .unset] [(.int ((Int32.ofNat sz) - (1 : Int32))), (.ref a1), (.ref t)]))
  rw [own_sub1 hsz]
  show OwnG _ _ _ _ _ _ (T2.setTop (mkF m 11 #[.val (.ref a1), .unset] [(.int (Int32.ofNat (sz - 1))), (.ref a1), (.ref t)]))
  obtain ⟨cq3, q3, q3'⟩ := E1.cell
  obtain ⟨_, _, ⟨T3, L3, k3, n3⟩, -, X3, ⟨Lc3, hQ3, l3, y3, z3⟩, st3⟩ := X2.privateBack hx (y := (⟨"com/example/shuntyard/shuntyard/table/Cards", "checkIndex", "(I)I"⟩ : MethodName)) hown (mvT hZ (hw _ (List.mem_of_getElem? (i := 48) rfl))) (mvT hZ (hw _ (List.mem_of_getElem? (i := 49) rfl))) (own_sel (y := (⟨"com/example/shuntyard/shuntyard/table/Cards", "checkIndex", "(I)I"⟩ : MethodName)) (by decide) (mvT hZ (hw _ (List.mem_of_getElem? (i := 1) rfl))) (mvP hZ (hw _ (List.mem_of_getElem? (i := 50) rfl))) (mvT hZ (hw _ (List.mem_of_getElem? (i := 49) rfl)))) (Cond.privateMethod_at (mvP hZ (hw _ (List.mem_of_getElem? (i := 50) rfl)) (args := #[]))) (mvT hZ (hw _ (List.mem_of_getElem? (i := 51) rfl))) (by decide) (backOf (W := 1) (rm10 l Z a0 hw [] a1 (sz - 1) sz h0 n0 Z0 Fs (by omega) (by omega)) hZ (hw _ (List.mem_of_getElem? (i := 51) rfl)) (hw _ (List.mem_of_getElem? (i := 2) rfl)) (by decide) (by decide)) (g := (mkF m 11 #[.val (.ref a1), .unset] [(.int (Int32.ofNat (sz - 1))), (.ref a1), (.ref t)])) rfl (by rw [hml]; rfl) (Steps.refl _) (a := a1) (by rw [e2]; exact q3) q3' (argsL := [(.int (Int32.ofNat (sz - 1)))]) (rest := [(.ref t)]) (lenOf pd_10 rfl) rfl (by show 2 * 0 + _ ≤ _; exact Nat.le_of_eq rfl) (hb hby d9_11) (fun _ _ => ⟨rfl, e2, (by decide : 0 + 0 ≤ _), (by decide : 0 + 0 ≤ _)⟩)
  dsimp only [Pt.U, Pt.locs, Pt.cells, Pt.slots] at X3 l3 y3 z3 st3 hQ3
  subst l3 y3 z3
  obtain ⟨rfl, N3q, hh3⟩ := hQ3
  have N3 := Fr.app N0 N3q
  refine OwnG.go (fun tz kz => st3.trans kz) ?_
  show OwnG _ _ _ _ _ _ (T3.setTop (mkF m 14 #[.val (.ref a1), .unset] [(.int (Int32.ofNat (sz - 1))), (.ref t)]))
  obtain ⟨cl, Ar, Sa, Ha⟩ := id V
  refine OwnG.go (fun _ kz => X3.iaload hx (j := (Int32.ofNat (sz - 1))) (v := (.int (f (sz - 1)))) (by rw [hh3]; exact Ar.1) (State.isArrayOf_alike hZ.alike Ar.2.1) Ar.2.2 (own_inb (j := sz - 1) Sa (by omega) (by omega)) (own_at (j := sz - 1) Sa Ha (by omega) (by omega)) (g := (mkF m 14 #[.val (.ref a1), .unset] [(.int (Int32.ofNat (sz - 1))), (.ref t)])) rfl rfl (hb hby d9_14) _ kz) ?_
  show OwnG _ _ _ _ _ _ (T3.setTop (mkF m 15 #[.val (.ref a1), .unset] [(.int (f (sz - 1)))]))
  refine OwnG.go (fun _ kz => XS.istoreN X3.here hx rfl (hb hby d9_15) rfl (l' := #[.val (.ref a1), .val (.int (f (sz - 1)))]) rfl kz) ?_
  show OwnG _ _ _ _ _ _ (T3.setTop (mkF m 16 #[.val (.ref a1), .val (.int (f (sz - 1)))] []))
  refine OwnG.go (fun _ kz => XS.aloadN X3.here hx rfl (hb hby d9_16) rfl rfl kz) ?_
  show OwnG _ _ _ _ _ _ (T3.setTop (mkF m 17 #[.val (.ref a1), .val (.int (f (sz - 1)))] [(.ref a1)]))
  refine OwnG.go (fun _ kz => XS.dup X3.here hx rfl (hb hby d9_17) rfl rfl kz) ?_
  show OwnG _ _ _ _ _ _ (T3.setTop (mkF m 18 #[.val (.ref a1), .val (.int (f (sz - 1)))] [(.ref a1), (.ref a1)]))
  obtain ⟨T4, X4, e4, st4⟩ := getF X3 hx hZ hown (host := "") (Or.inl (hw _ (List.mem_of_getElem? (i := 21) rfl))) Via.refl hh3 Fs (g := (mkF m 18 #[.val (.ref a1), .val (.int (f (sz - 1)))] [(.ref a1), (.ref a1)])) rfl rfl (hb hby d9_18)
  refine OwnG.go st4 ?_
  show OwnG _ _ _ _ _ _ (T4.setTop (mkF m 21 #[.val (.ref a1), .val (.int (f (sz - 1)))] [(.int (Int32.ofNat sz)), (.ref a1)]))
  refine OwnG.go (fun _ kz => XS.iconst X4.here hx rfl (hb hby d9_21) kz) ?_
  show OwnG _ _ _ _ _ _ (T4.setTop (mkF m 22 #[.val (.ref a1), .val (.int (f (sz - 1)))] [(.int (1 : Int32)), (.int (Int32.ofNat sz)), (.ref a1)]))
  refine OwnG.go (fun _ kz => XS.isub X4.here hx rfl (hb hby d9_22) rfl kz) ?_
  show OwnG _ _ _ _ _ _ (T4.setTop (mkF m 23 #[.val (.ref a1), .val (.int (f (sz - 1)))] [(.int ((Int32.ofNat sz) - (1 : Int32))), (.ref a1)]))
  rw [own_sub1 hsz]
  show OwnG _ _ _ _ _ _ (T4.setTop (mkF m 23 #[.val (.ref a1), .val (.int (f (sz - 1)))] [(.int (Int32.ofNat (sz - 1))), (.ref a1)]))
  obtain ⟨T5, h5, X5, e5, W5, st5⟩ := putF X4 hx hZ hown (host := "") (Or.inl (hw _ (List.mem_of_getElem? (i := 21) rfl))) Via.refl e4 Fs E1 (Or.inl (hw _ (List.mem_of_getElem? (i := 22) rfl))) (hw _ (List.mem_of_getElem? (i := 1) rfl)) (ty := .int) (by decide) rfl rfl (g := (mkF m 23 #[.val (.ref a1), .val (.int (f (sz - 1)))] [(.int (Int32.ofNat (sz - 1))), (.ref a1)])) rfl rfl (hb hby d9_23)
  have Fw5 := Fs.same W5
  have N5 := Fr.snoc X5 N3 ga
  refine OwnG.go st5 ?_
  show OwnG _ _ _ _ _ _ (T5.setTop (mkF m 26 #[.val (.ref a1), .val (.int (f (sz - 1)))] []))
  refine OwnG.go (fun _ kz => XS.iloadN X5.here hx rfl (hb hby d9_26) rfl kz) ?_
  show OwnG _ _ _ _ _ _ (T5.setTop (mkF m 27 #[.val (.ref a1), .val (.int (f (sz - 1)))] [(.int (f (sz - 1)))]))
  obtain ⟨fs, hr, hrun, hended, hW, hsame⟩ := X5.leave (v := some (.int (f (sz - 1)))) (fun h => by rw [Bd.returns] at h; cases h)
  refine ⟨_, _, retI X5 hx Bd.returns (hb hby d9_27) hr, hrun, hended, _, _, rfl, ?_, ⟨_, rfl⟩, hW, hsame.mono (by decide) (by decide)⟩
  show (Q9 Z a1 sz g h0 n0) _ T5.heap _
  rw [e5]
  exact ⟨⟨_, rfl⟩, N5, Nat.le_trans Z0 (Keep.of_wr W5).1, ga, E1.wr W5, Fw5, t, cap, f, Fi.other W5 (Or.inr (slot_ne (Or.inl (hw _ (List.mem_of_getElem? (i := 11) rfl))) (Or.inl (hw _ (List.mem_of_getElem? (i := 22) rfl))) (by decide) (t := (.array .int)) (t' := .int) (by decide) (by decide))), V.other W5 (Ne.symm ne), gt, ne, by omega, hq3, fun i hi => hg i (by omega)⟩
theorem d4_0 : decode prog_7_method_16_code 0 = .ok (.iconst 0, 1) := by decide +kernel
theorem d4_1 : decode prog_7_method_16_code 1 = .ok (.istore_n 2, 1) := by decide +kernel
theorem d4_2 : decode prog_7_method_16_code 2 = .ok (.iload_n 2, 1) := by decide +kernel
theorem d4_3 : decode prog_7_method_16_code 3 = .ok (.aload_n 0, 1) := by decide +kernel
theorem d4_4 : decode prog_7_method_16_code 4 = .ok (.getfield 13, 3) := by decide +kernel
theorem d4_7 : decode prog_7_method_16_code 7 = .ok (.if_icmp .ge 21, 3) := by decide +kernel
theorem d4_10 : decode prog_7_method_16_code 10 = .ok (.aload_n 0, 1) := by decide +kernel
theorem d4_11 : decode prog_7_method_16_code 11 = .ok (.getfield 7, 3) := by decide +kernel
theorem d4_14 : decode prog_7_method_16_code 14 = .ok (.iload_n 2, 1) := by decide +kernel
theorem d4_15 : decode prog_7_method_16_code 15 = .ok (.iaload, 1) := by decide +kernel
theorem d4_16 : decode prog_7_method_16_code 16 = .ok (.iload_n 1, 1) := by decide +kernel
theorem d4_17 : decode prog_7_method_16_code 17 = .ok (.if_icmp .ne 5, 3) := by decide +kernel
theorem d4_20 : decode prog_7_method_16_code 20 = .ok (.iload_n 2, 1) := by decide +kernel
theorem d4_21 : decode prog_7_method_16_code 21 = .ok (.ireturn, 1) := by decide +kernel
theorem d4_22 : decode prog_7_method_16_code 22 = .ok (.iinc 2 1, 3) := by decide +kernel
theorem d4_25 : decode prog_7_method_16_code 25 = .ok (.goto (-23), 3) := by decide +kernel
theorem d4_28 : decode prog_7_method_16_code 28 = .ok (.iconst (-1), 1) := by decide +kernel
theorem d4_29 : decode prog_7_method_16_code 29 = .ok (.ireturn, 1) := by decide +kernel
theorem pn_4 : plainName "com/example/shuntyard/shuntyard/table/Cards" = true := by first | (simp [plainName, overriddenIn]; done) | decide +kernel
theorem ef_4 (m : MethodId) (x0 : Addr) (x1 : Int32) : entryFrame m #[(.ref x0), (.int x1)] 3 = mkF m 0 #[.val (.ref x0), .val (.int x1), .unset] [] := by first | (simp [entryFrame, mkF, argsToLocals, Value.category]; done) | rfl
def Q4 (Z : State) (a1 : Addr) (p2 : Int32) (sz : Nat) (g : Nat → Int32) (h0 : Heap) (n0 : Nat) (v : Option Value) (h : Heap) (L : List Loc) : Prop := v = some (.int (own_ix g p2 0 sz)) ∧ Fr n0 L ∧ h = h0
set_option maxRecDepth 65536 in
set_option maxHeartbeats 40000000 in
theorem rm4 (l : Launch) (Z : State) (a0 : Array Value) (hw : ∀ d ∈ tables_1, d.before a0 Z = true) (ws : List Jvm.Cond) (a1 : Addr) (p2 : Int32) (sz : Nat) (g : Nat → Int32) (h0 : Heap) (n0 : Nat) (Z0 : n0 ≤ h0.size) (S1 : OwnC Z h0 n0 a1 sz g) :
    MetFree l (⟨"com/example/shuntyard/shuntyard/table/Cards", "indexOf", "(I)I"⟩ : MethodName) (head1 (Jvm.Cond.code (⟨"com/example/shuntyard/shuntyard/table/Cards", "indexOf", "(I)I"⟩ : MethodName) prog_7_method_16_code 3 (some .int) :: ws) ({ frames := 0, cells := 0, slots := 0, locals := 0 } : Room)) (fun a U => a = #[(.ref a1), (.int p2)] ∧ Z.Warmed39 U.vm ∧ U.heap = h0) (fun _ _ _ _ _ => True) (fun _ U o U' => ∃ v L, o = .returned v ∧ (Q4 Z a1 p2 sz g h0 n0) v U'.heap L ∧ FrameEnd U o U' L ({ frames := 0, cells := 0, slots := 0, locals := 0 } : Room).cells ({ frames := 0, cells := 0, slots := 0, locals := 0 } : Room).slots) := by
  refine MetFree.of_bodySF (plainFor_of_name pn_4) hisR ?_
  intro p e s m args below meth c s₁ Bd hml0 hP hK
  obtain ⟨rfl, hZ, hh⟩ := hP
  have hx := Bd.exec
  have hby := Bd.bytes
  have hml : c.maxLocals = 3 := hml0
  have hown : s.vm.findClass "com/example/shuntyard/shuntyard/table/Cards" = some m.cls := (findClass_of_methodNamed Bd.named :)
  have hnm := (name_of_methodNamed Bd.named Bd.method).1
  have X0 : Stand p l e ({ frames := 0, cells := 0, slots := 0, locals := 0 } : Room) s m #[(.ref a1), (.int p2)] below meth c s₁ [] 0 0 := Stand.of_body Bd
  have e0 : s₁.heap = h0 := by rw [← hh, Bd.state]; rfl
  have N0 := Fr.nil n0
  obtain ⟨Zs, ga, E1, Fs, t, cap, f, Fi, V, gt, ne, hq1, hq3, hg⟩ := S1
  obtain ⟨cl, Ar, Sa, Ha⟩ := id V
  have B2 : ∀ (k i : Nat) (T : State), i + k = sz → own_ix g p2 i k = own_ix g p2 0 sz → Stand p l e ({ frames := 0, cells := 0, slots := 0, locals := 0 } : Room) s m #[(.ref a1), (.int p2)] below meth c T [] 0 0 → T.heap = h0 → OwnG p.tables e below s ({ frames := 0, cells := 0, slots := 0, locals := 0 } : Room) (Q4 Z a1 p2 sz g h0 n0) (T.setTop (mkF m 2 #[.val (.ref a1), .val (.int p2), .val (.int (Int32.ofNat i))] [])) := by
    intro k
    induction k with
    | zero =>
      intro i T hi hq X hT
      show OwnG _ _ _ _ _ _ (T.setTop (mkF m 2 #[.val (.ref a1), .val (.int p2), .val (.int (Int32.ofNat i))] []))
      refine OwnG.go (fun _ kz => XS.iloadN X.here hx rfl (hb hby d4_2) rfl kz) ?_
      show OwnG _ _ _ _ _ _ (T.setTop (mkF m 3 #[.val (.ref a1), .val (.int p2), .val (.int (Int32.ofNat i))] [(.int (Int32.ofNat i))]))
      refine OwnG.go (fun _ kz => XS.aloadN X.here hx rfl (hb hby d4_3) rfl rfl kz) ?_
      show OwnG _ _ _ _ _ _ (T.setTop (mkF m 4 #[.val (.ref a1), .val (.int p2), .val (.int (Int32.ofNat i))] [(.ref a1), (.int (Int32.ofNat i))]))
      obtain ⟨T1, X1, e1, st1⟩ := getF X hx hZ hown (host := "") (Or.inl (hw _ (List.mem_of_getElem? (i := 21) rfl))) Via.refl hT Fs (g := (mkF m 4 #[.val (.ref a1), .val (.int p2), .val (.int (Int32.ofNat i))] [(.ref a1), (.int (Int32.ofNat i))])) rfl rfl (hb hby d4_4)
      refine OwnG.go st1 ?_
      show OwnG _ _ _ _ _ _ (T1.setTop (mkF m 7 #[.val (.ref a1), .val (.int p2), .val (.int (Int32.ofNat i))] [(.int (Int32.ofNat sz)), (.int (Int32.ofNat i))]))
      refine OwnG.go (fun _ kz => XS.icmpYes X1.here hx rfl (pc0 := 7) (pc' := 28) rfl (hb hby d4_7) rfl (flt (fun q => by have := (own_lt (by omega) (by omega)).mp q; omega)).2.1 (by decide) (by decide) kz) ?_
      show OwnG _ _ _ _ _ _ (T1.setTop (mkF m 28 #[.val (.ref a1), .val (.int p2), .val (.int (Int32.ofNat i))] []))
      refine OwnG.go (fun _ kz => XS.iconst X1.here hx rfl (hb hby d4_28) kz) ?_
      show OwnG _ _ _ _ _ _ (T1.setTop (mkF m 29 #[.val (.ref a1), .val (.int p2), .val (.int (Int32.ofNat i))] [(.int (-1 : Int32))]))
      obtain ⟨fs, hr, hrun, hended, hW, hsame⟩ := X1.leave (v := some (.int (-1 : Int32))) (fun h => by rw [Bd.returns] at h; cases h)
      refine ⟨_, _, retI X1 hx Bd.returns (hb hby d4_29) hr, hrun, hended, _, _, rfl, ?_, ⟨_, rfl⟩, hW, hsame.mono (by decide) (by decide)⟩
      show (Q4 Z a1 p2 sz g h0 n0) _ T1.heap _
      rw [e1]
      exact ⟨by rw [← hq]; rfl, N0, rfl⟩
    | succ k ih =>
      intro i T hi hq X hT
      show OwnG _ _ _ _ _ _ (T.setTop (mkF m 2 #[.val (.ref a1), .val (.int p2), .val (.int (Int32.ofNat i))] []))
      refine OwnG.go (fun _ kz => XS.iloadN X.here hx rfl (hb hby d4_2) rfl kz) ?_
      show OwnG _ _ _ _ _ _ (T.setTop (mkF m 3 #[.val (.ref a1), .val (.int p2), .val (.int (Int32.ofNat i))] [(.int (Int32.ofNat i))]))
      refine OwnG.go (fun _ kz => XS.aloadN X.here hx rfl (hb hby d4_3) rfl rfl kz) ?_
      show OwnG _ _ _ _ _ _ (T.setTop (mkF m 4 #[.val (.ref a1), .val (.int p2), .val (.int (Int32.ofNat i))] [(.ref a1), (.int (Int32.ofNat i))]))
      obtain ⟨T2, X2, e2, st2⟩ := getF X hx hZ hown (host := "") (Or.inl (hw _ (List.mem_of_getElem? (i := 21) rfl))) Via.refl hT Fs (g := (mkF m 4 #[.val (.ref a1), .val (.int p2), .val (.int (Int32.ofNat i))] [(.ref a1), (.int (Int32.ofNat i))])) rfl rfl (hb hby d4_4)
      refine OwnG.go st2 ?_
      show OwnG _ _ _ _ _ _ (T2.setTop (mkF m 7 #[.val (.ref a1), .val (.int p2), .val (.int (Int32.ofNat i))] [(.int (Int32.ofNat sz)), (.int (Int32.ofNat i))]))
      refine OwnG.go (fun _ kz => XS.icmpNo X2.here hx rfl (hb hby d4_7) rfl (tlt ((own_lt (by omega) (by omega)).mpr (by omega))).2.1 kz) ?_
      show OwnG _ _ _ _ _ _ (T2.setTop (mkF m 10 #[.val (.ref a1), .val (.int p2), .val (.int (Int32.ofNat i))] []))
      refine OwnG.go (fun _ kz => XS.aloadN X2.here hx rfl (hb hby d4_10) rfl rfl kz) ?_
      show OwnG _ _ _ _ _ _ (T2.setTop (mkF m 11 #[.val (.ref a1), .val (.int p2), .val (.int (Int32.ofNat i))] [(.ref a1)]))
      obtain ⟨T3, X3, e3, st3⟩ := getF X2 hx hZ hown (host := "") (Or.inl (hw _ (List.mem_of_getElem? (i := 10) rfl))) Via.refl e2 Fi (g := (mkF m 11 #[.val (.ref a1), .val (.int p2), .val (.int (Int32.ofNat i))] [(.ref a1)])) rfl rfl (hb hby d4_11)
      refine OwnG.go st3 ?_
      show OwnG _ _ _ _ _ _ (T3.setTop (mkF m 14 #[.val (.ref a1), .val (.int p2), .val (.int (Int32.ofNat i))] [(.ref t)]))
      refine OwnG.go (fun _ kz => XS.iloadN X3.here hx rfl (hb hby d4_14) rfl kz) ?_
      show OwnG _ _ _ _ _ _ (T3.setTop (mkF m 15 #[.val (.ref a1), .val (.int p2), .val (.int (Int32.ofNat i))] [(.int (Int32.ofNat i)), (.ref t)]))
      refine OwnG.go (fun _ kz => X3.iaload hx (j := (Int32.ofNat i)) (v := (.int (g i))) (by rw [e3]; exact Ar.1) (State.isArrayOf_alike hZ.alike Ar.2.1) Ar.2.2 (own_inb (j := i) Sa (by omega) (by omega)) ((own_at (j := i) Sa Ha (by omega) (by omega)).trans (by rw [hg i (by omega)])) (g := (mkF m 15 #[.val (.ref a1), .val (.int p2), .val (.int (Int32.ofNat i))] [(.int (Int32.ofNat i)), (.ref t)])) rfl rfl (hb hby d4_15) _ kz) ?_
      show OwnG _ _ _ _ _ _ (T3.setTop (mkF m 16 #[.val (.ref a1), .val (.int p2), .val (.int (Int32.ofNat i))] [(.int (g i))]))
      refine OwnG.go (fun _ kz => XS.iloadN X3.here hx rfl (hb hby d4_16) rfl kz) ?_
      show OwnG _ _ _ _ _ _ (T3.setTop (mkF m 17 #[.val (.ref a1), .val (.int p2), .val (.int (Int32.ofNat i))] [(.int p2), (.int (g i))]))
      by_cases c2 : (g i) = p2
      · have _u := ()
        refine OwnG.go (fun _ kz => XS.icmpNo X3.here hx rfl (hb hby d4_17) rfl (teq c2).2 kz) ?_
        show OwnG _ _ _ _ _ _ (T3.setTop (mkF m 20 #[.val (.ref a1), .val (.int p2), .val (.int (Int32.ofNat i))] []))
        refine OwnG.go (fun _ kz => XS.iloadN X3.here hx rfl (hb hby d4_20) rfl kz) ?_
        show OwnG _ _ _ _ _ _ (T3.setTop (mkF m 21 #[.val (.ref a1), .val (.int p2), .val (.int (Int32.ofNat i))] [(.int (Int32.ofNat i))]))
        obtain ⟨fs, hr, hrun, hended, hW, hsame⟩ := X3.leave (v := some (.int (Int32.ofNat i))) (fun h => by rw [Bd.returns] at h; cases h)
        refine ⟨_, _, retI X3 hx Bd.returns (hb hby d4_21) hr, hrun, hended, _, _, rfl, ?_, ⟨_, rfl⟩, hW, hsame.mono (by decide) (by decide)⟩
        show (Q4 Z a1 p2 sz g h0 n0) _ T3.heap _
        rw [e3]
        exact ⟨by rw [← hq, own_ix, if_pos c2], N0, rfl⟩
      · have _u := ()
        refine OwnG.go (fun _ kz => XS.icmpYes X3.here hx rfl (pc0 := 17) (pc' := 22) rfl (hb hby d4_17) rfl (feq c2).2 (by decide) (by decide) kz) ?_
        show OwnG _ _ _ _ _ _ (T3.setTop (mkF m 22 #[.val (.ref a1), .val (.int p2), .val (.int (Int32.ofNat i))] []))
        refine OwnG.go (fun _ kz => XS.iinc X3.here hx rfl (hb hby d4_22) rfl (l' := #[.val (.ref a1), .val (.int p2), .val (.int ((Int32.ofNat i) + (1 : Int32)))]) rfl kz) ?_
        show OwnG _ _ _ _ _ _ (T3.setTop (mkF m 25 #[.val (.ref a1), .val (.int p2), .val (.int ((Int32.ofNat i) + (1 : Int32)))] []))
        rw [own_one]
        show OwnG _ _ _ _ _ _ (T3.setTop (mkF m 25 #[.val (.ref a1), .val (.int p2), .val (.int (Int32.ofNat (i + 1)))] []))
        refine OwnG.go (fun _ kz => XS.goto X3.here hx rfl (pc0 := 25) (pc' := 2) rfl (hb hby d4_25) (by decide) (by decide) kz) ?_
        show OwnG _ _ _ _ _ _ (T3.setTop (mkF m 2 #[.val (.ref a1), .val (.int p2), .val (.int (Int32.ofNat (i + 1)))] []))
        exact ih (i + 1) _ (by omega) (by rw [← hq, own_ix, if_neg c2]) X3 e3
  show OwnG p.tables e below s ({ frames := 0, cells := 0, slots := 0, locals := 0 } : Room) (Q4 Z a1 p2 sz g h0 n0) (s₁.setTop (entryFrame m #[(.ref a1), (.int p2)] 3))
  refine OwnG.go (fun tz kz => castTop (ef_4 m a1 p2) kz) ?_
  show OwnG _ _ _ _ _ _ (s₁.setTop (mkF m 0 #[.val (.ref a1), .val (.int p2), .unset] []))
  refine OwnG.go (fun _ kz => XS.iconst X0.here hx rfl (hb hby d4_0) kz) ?_
  show OwnG _ _ _ _ _ _ (s₁.setTop (mkF m 1 #[.val (.ref a1), .val (.int p2), .unset] [(.int (0 : Int32))]))
  refine OwnG.go (fun _ kz => XS.istoreN X0.here hx rfl (hb hby d4_1) rfl (l' := #[.val (.ref a1), .val (.int p2), .val (.int (0 : Int32))]) rfl kz) ?_
  show OwnG _ _ _ _ _ _ (s₁.setTop (mkF m 2 #[.val (.ref a1), .val (.int p2), .val (.int (0 : Int32))] []))
  exact B2 sz 0 _ (by omega) rfl X0 e0
theorem d3_0 : decode prog_7_method_5_code 0 = .ok (.aload_n 0, 1) := by decide +kernel
theorem d3_1 : decode prog_7_method_5_code 1 = .ok (.iload_n 1, 1) := by decide +kernel
theorem d3_2 : decode prog_7_method_5_code 2 = .ok (.invokevirtual 21, 3) := by decide +kernel
theorem d3_5 : decode prog_7_method_5_code 5 = .ok (.ifCond .lt 7, 3) := by decide +kernel
theorem d3_8 : decode prog_7_method_5_code 8 = .ok (.iconst 1, 1) := by decide +kernel
theorem d3_9 : decode prog_7_method_5_code 9 = .ok (.goto 4, 3) := by decide +kernel
theorem d3_12 : decode prog_7_method_5_code 12 = .ok (.iconst 0, 1) := by decide +kernel
theorem d3_13 : decode prog_7_method_5_code 13 = .ok (.ireturn, 1) := by decide +kernel
theorem pn_3 : plainName "com/example/shuntyard/shuntyard/table/Cards" = true := by first | (simp [plainName, overriddenIn]; done) | decide +kernel
theorem ef_3 (m : MethodId) (x0 : Addr) (x1 : Int32) : entryFrame m #[(.ref x0), (.int x1)] 2 = mkF m 0 #[.val (.ref x0), .val (.int x1)] [] := by first | (simp [entryFrame, mkF, argsToLocals, Value.category]; done) | rfl
def Q3 (Z : State) (a1 : Addr) (p2 : Int32) (sz : Nat) (g : Nat → Int32) (h0 : Heap) (n0 : Nat) (v : Option Value) (h : Heap) (L : List Loc) : Prop := v = some (.int (own_ct g p2 sz)) ∧ Fr n0 L ∧ h = h0
set_option maxRecDepth 65536 in
set_option maxHeartbeats 40000000 in
theorem rm3 (l : Launch) (Z : State) (a0 : Array Value) (hw : ∀ d ∈ tables_1, d.before a0 Z = true) (ws : List Jvm.Cond) (a1 : Addr) (p2 : Int32) (sz : Nat) (g : Nat → Int32) (h0 : Heap) (n0 : Nat) (Z0 : n0 ≤ h0.size) (S1 : OwnC Z h0 n0 a1 sz g) :
    MetFree l (⟨"com/example/shuntyard/shuntyard/table/Cards", "contains", "(I)Z"⟩ : MethodName) (head1 (Jvm.Cond.code (⟨"com/example/shuntyard/shuntyard/table/Cards", "contains", "(I)Z"⟩ : MethodName) prog_7_method_5_code 2 (some .boolean) :: ws) ({ frames := 1, cells := 0, slots := 0, locals := 14 } : Room)) (fun a U => a = #[(.ref a1), (.int p2)] ∧ Z.Warmed39 U.vm ∧ U.heap = h0) (fun _ _ _ _ _ => True) (fun _ U o U' => ∃ v L, o = .returned v ∧ (Q3 Z a1 p2 sz g h0 n0) v U'.heap L ∧ FrameEnd U o U' L ({ frames := 1, cells := 0, slots := 0, locals := 14 } : Room).cells ({ frames := 1, cells := 0, slots := 0, locals := 14 } : Room).slots) := by
  refine MetFree.of_bodySF (plainFor_of_name pn_3) hisR ?_
  intro p e s m args below meth c s₁ Bd hml0 hP hK
  obtain ⟨rfl, hZ, hh⟩ := hP
  have hx := Bd.exec
  have hby := Bd.bytes
  have hml : c.maxLocals = 2 := hml0
  have hown : s.vm.findClass "com/example/shuntyard/shuntyard/table/Cards" = some m.cls := (findClass_of_methodNamed Bd.named :)
  have hnm := (name_of_methodNamed Bd.named Bd.method).1
  have X0 : Stand p l e ({ frames := 1, cells := 0, slots := 0, locals := 14 } : Room) s m #[(.ref a1), (.int p2)] below meth c s₁ [] 0 0 := Stand.of_body Bd
  have e0 : s₁.heap = h0 := by rw [← hh, Bd.state]; rfl
  have N0 := Fr.nil n0
  show OwnG p.tables e below s ({ frames := 1, cells := 0, slots := 0, locals := 14 } : Room) (Q3 Z a1 p2 sz g h0 n0) (s₁.setTop (entryFrame m #[(.ref a1), (.int p2)] 2))
  refine OwnG.go (fun tz kz => castTop (ef_3 m a1 p2) kz) ?_
  show OwnG _ _ _ _ _ _ (s₁.setTop (mkF m 0 #[.val (.ref a1), .val (.int p2)] []))
  refine OwnG.go (fun _ kz => XS.aloadN X0.here hx rfl (hb hby d3_0) rfl rfl kz) ?_
  show OwnG _ _ _ _ _ _ (s₁.setTop (mkF m 1 #[.val (.ref a1), .val (.int p2)] [(.ref a1)]))
  refine OwnG.go (fun _ kz => XS.iloadN X0.here hx rfl (hb hby d3_1) rfl kz) ?_
  show OwnG _ _ _ _ _ _ (s₁.setTop (mkF m 2 #[.val (.ref a1), .val (.int p2)] [(.int p2), (.ref a1)]))
  obtain ⟨cq1, q1, q1'⟩ := S1.2.2.1.cell
  obtain ⟨_, _, ⟨T1, L1, k1, n1⟩, -, X1, ⟨Lc1, hQ1, l1, y1, z1⟩, st1⟩ := X0.privateBack hx (y := (⟨"com/example/shuntyard/shuntyard/table/Cards", "indexOf", "(I)I"⟩ : MethodName)) hown (mvT hZ (hw _ (List.mem_of_getElem? (i := 17) rfl))) (mvT hZ (hw _ (List.mem_of_getElem? (i := 18) rfl))) (own_sel (y := (⟨"com/example/shuntyard/shuntyard/table/Cards", "indexOf", "(I)I"⟩ : MethodName)) (by decide) (mvT hZ (hw _ (List.mem_of_getElem? (i := 1) rfl))) (mvP hZ (hw _ (List.mem_of_getElem? (i := 19) rfl))) (mvT hZ (hw _ (List.mem_of_getElem? (i := 18) rfl)))) (Cond.privateMethod_at (mvP hZ (hw _ (List.mem_of_getElem? (i := 19) rfl)) (args := #[]))) (mvT hZ (hw _ (List.mem_of_getElem? (i := 20) rfl))) (by decide) (backOf (W := 0) (rm4 l Z a0 hw [] a1 p2 sz g h0 n0 Z0 S1) hZ (hw _ (List.mem_of_getElem? (i := 20) rfl)) (hw _ (List.mem_of_getElem? (i := 2) rfl)) (by decide) (by decide)) (g := (mkF m 2 #[.val (.ref a1), .val (.int p2)] [(.int p2), (.ref a1)])) rfl (by rw [hml]; rfl) (Steps.refl _) (a := a1) (by rw [e0]; exact q1) q1' (argsL := [(.int p2)]) (rest := []) (lenOf pd_4 rfl) rfl (by show 2 * 0 + _ ≤ _; exact Nat.le_of_eq rfl) (hb hby d3_2) (fun _ _ => ⟨rfl, e0, (by decide : 0 + 0 ≤ _), (by decide : 0 + 0 ≤ _)⟩)
  dsimp only [Pt.U, Pt.locs, Pt.cells, Pt.slots] at X1 l1 y1 z1 st1 hQ1
  subst l1 y1 z1
  obtain ⟨rfl, N1q, hh1⟩ := hQ1
  have N1 := Fr.app N0 N1q
  refine OwnG.go (fun tz kz => st1.trans kz) ?_
  show OwnG _ _ _ _ _ _ (T1.setTop (mkF m 5 #[.val (.ref a1), .val (.int p2)] [(.int (own_ix g p2 0 sz))]))
  by_cases c1 : (own_ix g p2 0 sz) < (0 : Int32)
  · have _u := ()
    refine OwnG.go (fun _ kz => XS.ifYes X1.here hx rfl (pc0 := 5) (pc' := 12) rfl (hb hby d3_5) rfl ((if0 _ _).trans (tlt c1).1) (by decide) (by decide) kz) ?_
    show OwnG _ _ _ _ _ _ (T1.setTop (mkF m 12 #[.val (.ref a1), .val (.int p2)] []))
    refine OwnG.go (fun _ kz => XS.iconst X1.here hx rfl (hb hby d3_12) kz) ?_
    show OwnG _ _ _ _ _ _ (T1.setTop (mkF m 13 #[.val (.ref a1), .val (.int p2)] [(.int (0 : Int32))]))
    obtain ⟨fs, hr, hrun, hended, hW, hsame⟩ := X1.leave (v := some (.int (0 : Int32))) (fun h => by rw [Bd.returns] at h; cases h)
    refine ⟨_, _, retN X1 hx (t := .boolean) Bd.returns (by simp) (hb hby d3_13) hr, hrun, hended, _, _, rfl, ?_, ⟨_, rfl⟩, hW, hsame.mono (by decide) (by decide)⟩
    show (Q3 Z a1 p2 sz g h0 n0) _ T1.heap _
    rw [hh1]
    exact ⟨by rw [own_ct, if_pos c1], N1, rfl⟩
  · have _u := ()
    refine OwnG.go (fun _ kz => XS.ifNo X1.here hx rfl (hb hby d3_5) rfl ((if0 _ _).trans (flt c1).1) kz) ?_
    show OwnG _ _ _ _ _ _ (T1.setTop (mkF m 8 #[.val (.ref a1), .val (.int p2)] []))
    refine OwnG.go (fun _ kz => XS.iconst X1.here hx rfl (hb hby d3_8) kz) ?_
    show OwnG _ _ _ _ _ _ (T1.setTop (mkF m 9 #[.val (.ref a1), .val (.int p2)] [(.int (1 : Int32))]))
    refine OwnG.go (fun _ kz => XS.goto X1.here hx rfl (pc0 := 9) (pc' := 13) rfl (hb hby d3_9) (by decide) (by decide) kz) ?_
    show OwnG _ _ _ _ _ _ (T1.setTop (mkF m 13 #[.val (.ref a1), .val (.int p2)] [(.int (1 : Int32))]))
    obtain ⟨fs, hr, hrun, hended, hW, hsame⟩ := X1.leave (v := some (.int (1 : Int32))) (fun h => by rw [Bd.returns] at h; cases h)
    refine ⟨_, _, retN X1 hx (t := .boolean) Bd.returns (by simp) (hb hby d3_13) hr, hrun, hended, _, _, rfl, ?_, ⟨_, rfl⟩, hW, hsame.mono (by decide) (by decide)⟩
    show (Q3 Z a1 p2 sz g h0 n0) _ T1.heap _
    rw [hh1]
    exact ⟨by rw [own_ct, if_neg c1], N1, rfl⟩
theorem pn_0 : plainName "com/example/shuntyard/shuntyard/table/CardsContainsPinLaw" = true := by first | (simp [plainName, overriddenIn]; done) | decide +kernel
theorem ef_0 (m : MethodId) (x0 : Int32) (x1 : Int32) (x2 : Int32) (x3 : Int32) (x4 : Int32) (x5 : Int32) : entryFrame m #[(.int x0), (.int x1), (.int x2), (.int x3), (.int x4), (.int x5)] maxLocals = mkF m 0 #[.val (.int x0), .val (.int x1), .val (.int x2), .val (.int x3), .val (.int x4), .val (.int x5), .unset, .unset, .unset, .unset, .unset, .unset, .unset] [] := by first | (simp [entryFrame, mkF, argsToLocals, Value.category, maxLocals]; done) | rfl
def Q0 (Z : State) (p1 p2 p3 p4 p5 p6 : Int32) (h0 : Heap) (n0 : Nat) (v : Option Value) (h : Heap) (L : List Loc) : Prop := v = some (.int (1 : Int32)) ∧ Fr n0 L
set_option maxRecDepth 65536 in
set_option maxHeartbeats 40000000 in
theorem rm0 (l : Launch) (Z : State) (a0 : Array Value) (hw : ∀ d ∈ tables_1, d.before a0 Z = true) (ws : List Jvm.Cond) (p1 p2 p3 p4 p5 p6 : Int32) (h0 : Heap) (n0 : Nat) (Z0 : n0 ≤ h0.size)  :
    MetFree l x (head1 (Jvm.Cond.code x code maxLocals ret :: ws) room_1) (fun a U => a = #[(.int p1), (.int p2), (.int p3), (.int p4), (.int p5), (.int p6)] ∧ Z.Warmed39 U.vm ∧ U.heap = h0) (fun _ _ _ _ _ => True) (fun _ U o U' => ∃ v L, o = .returned v ∧ (Q0 Z p1 p2 p3 p4 p5 p6 h0 n0) v U'.heap L ∧ FrameEnd U o U' L room_1.cells room_1.slots) := by
  refine MetFree.of_bodySF (plainFor_of_name pn_0) hisR ?_
  intro p e s m args below meth c s₁ Bd hml0 hP hK
  obtain ⟨rfl, hZ, hh⟩ := hP
  have hx := Bd.exec
  have hby := Bd.bytes
  have hml : c.maxLocals = 13 := hml0
  have hown : s.vm.findClass "com/example/shuntyard/shuntyard/table/CardsContainsPinLaw" = some m.cls := (findClass_of_methodNamed Bd.named :)
  have hnm := (name_of_methodNamed Bd.named Bd.method).1
  have X0 : Stand p l e room_1 s m #[(.int p1), (.int p2), (.int p3), (.int p4), (.int p5), (.int p6)] below meth c s₁ [] 0 0 := Stand.of_body Bd
  have e0 : s₁.heap = h0 := by rw [← hh, Bd.state]; rfl
  have N0 := Fr.nil n0
  obtain ⟨cp, hcp, ecp⟩ := own_and (m := 3) p1 (by decide)
  obtain ⟨n, hn, en⟩ := own_and (m := 3) ((p1.toUInt32 >>> ((2 : Int32) &&& 31).toUInt32).toInt32) (by decide)
  have B88 : ∀ sv tv qv : Int32, OwnG p.tables e below s room_1 (Q0 Z p1 p2 p3 p4 p5 p6 h0 n0) (s₁.setTop (mkF m 88 #[.val (.int p1), .val (.int p2), .val (.int p3), .val (.int p4), .val (.int p5), .val (.int p6), .val (.int (Int32.ofNat cp)), .val (.int (Int32.ofNat n)), .val (.int sv), .val (.int tv), .val (.int qv), .unset, .unset] [])) := by
    intro sv tv qv
    show OwnG _ _ _ _ _ _ (s₁.setTop (mkF m 88 #[.val (.int p1), .val (.int p2), .val (.int p3), .val (.int p4), .val (.int p5), .val (.int p6), .val (.int (Int32.ofNat cp)), .val (.int (Int32.ofNat n)), .val (.int sv), .val (.int tv), .val (.int qv), .unset, .unset] []))
    obtain ⟨T1, h1, X1, e1, E1, A1, D1, -, st1⟩ := newO X0 hx hZ hown (hw _ (List.mem_of_getElem? (i := 0) rfl)) (hw _ (List.mem_of_getElem? (i := 1) rfl)) (hw _ (List.mem_of_getElem? (i := 2) rfl)) e0 (g := (mkF m 88 #[.val (.int p1), .val (.int p2), .val (.int p3), .val (.int p4), .val (.int p5), .val (.int p6), .val (.int (Int32.ofNat cp)), .val (.int (Int32.ofNat n)), .val (.int sv), .val (.int tv), .val (.int qv), .unset, .unset] [])) rfl (hb hby at_88) (by decide) (by decide)
    obtain ⟨b1, g1⟩ : ∃ z, z = h0.size := ⟨_, rfl⟩
    rw [← g1] at A1 D1 st1
    refine OwnG.go st1 ?_
    show OwnG _ _ _ _ _ _ (T1.setTop (mkF m 91 #[.val (.int p1), .val (.int p2), .val (.int p3), .val (.int p4), .val (.int p5), .val (.int p6), .val (.int (Int32.ofNat cp)), .val (.int (Int32.ofNat n)), .val (.int sv), .val (.int tv), .val (.int qv), .unset, .unset] [(.ref b1)]))
    have F_size_b1 : Fld Z h1 b1 "com/example/shuntyard/shuntyard/table/Cards" "size" "I" (.int (0 : Int32)) := D1 (Or.inl (hw _ (List.mem_of_getElem? (i := 22) rfl))) (ty := .int) (by decide)
    have F_cards_b1 : Fld Z h1 b1 "com/example/shuntyard/shuntyard/table/Cards" "cards" "[I" .null := D1 (Or.inl (hw _ (List.mem_of_getElem? (i := 11) rfl))) (ty := (.array .int)) (by decide)
    have go : n0 ≤ b1 := Nat.le_trans Z0 (Nat.le_of_eq g1.symm)
    have Z1 : n0 ≤ h1.size := Nat.le_trans Z0 E1.1
    refine OwnG.go (fun _ kz => XS.dup X1.here hx rfl (hb hby at_91) rfl rfl kz) ?_
    show OwnG _ _ _ _ _ _ (T1.setTop (mkF m 92 #[.val (.int p1), .val (.int p2), .val (.int p3), .val (.int p4), .val (.int p5), .val (.int p6), .val (.int (Int32.ofNat cp)), .val (.int (Int32.ofNat n)), .val (.int sv), .val (.int tv), .val (.int qv), .unset, .unset] [(.ref b1), (.ref b1)]))
    refine OwnG.go (fun _ kz => XS.iload X1.here hx rfl (hb hby at_92) rfl kz) ?_
    show OwnG _ _ _ _ _ _ (T1.setTop (mkF m 94 #[.val (.int p1), .val (.int p2), .val (.int p3), .val (.int p4), .val (.int p5), .val (.int p6), .val (.int (Int32.ofNat cp)), .val (.int (Int32.ofNat n)), .val (.int sv), .val (.int tv), .val (.int qv), .unset, .unset] [(.int (Int32.ofNat cp)), (.ref b1), (.ref b1)]))
    obtain ⟨_, _, ⟨T2, L2, k2, n2⟩, -, X2, ⟨Lc2, hQ2, l2, y2, z2⟩, st2⟩ := X1.specialBack hx (y := (⟨"com/example/shuntyard/shuntyard/table/Cards", "<init>", "(I)V"⟩ : MethodName)) rfl hown (mvT hZ (hw _ (List.mem_of_getElem? (i := 3) rfl))) (mvT hZ (hw _ (List.mem_of_getElem? (i := 4) rfl))) (mvT hZ (hw _ (List.mem_of_getElem? (i := 5) rfl))) (by decide) (backOf (W := 1) (rm1 l Z a0 hw [] b1 cp h1 n0 Z1 A1 F_size_b1 F_cards_b1 go hcp) hZ (hw _ (List.mem_of_getElem? (i := 5) rfl)) (hw _ (List.mem_of_getElem? (i := 2) rfl)) (by decide) (by decide)) (g := (mkF m 94 #[.val (.int p1), .val (.int p2), .val (.int p3), .val (.int p4), .val (.int p5), .val (.int p6), .val (.int (Int32.ofNat cp)), .val (.int (Int32.ofNat n)), .val (.int sv), .val (.int tv), .val (.int qv), .unset, .unset] [(.int (Int32.ofNat cp)), (.ref b1), (.ref b1)])) rfl (by rw [hml]; rfl) (Steps.refl _) (a := b1) (argsL := [(.int (Int32.ofNat cp))]) (rest := [(.ref b1)]) (lenOf pd_1 rfl) rfl (by show 2 * 0 + _ ≤ _; exact Nat.le_of_eq rfl) (hb hby at_94) (fun _ _ => ⟨rfl, e1, (by decide : 1 + 1 ≤ _), (by decide : 2 + 3 ≤ _)⟩)
    dsimp only [Pt.U, Pt.locs, Pt.cells, Pt.slots] at X2 l2 y2 z2 st2 hQ2
    subst l2 y2 z2
    obtain ⟨rfl, N2q, S2⟩ := hQ2
    have N2 := Fr.app N0 N2q
    refine OwnG.go (fun tz kz => st2.trans kz) ?_
    show OwnG _ _ _ _ _ _ (T2.setTop (mkF m 97 #[.val (.int p1), .val (.int p2), .val (.int p3), .val (.int p4), .val (.int p5), .val (.int p6), .val (.int (Int32.ofNat cp)), .val (.int (Int32.ofNat n)), .val (.int sv), .val (.int tv), .val (.int qv), .unset, .unset] [(.ref b1)]))
    have Sz := S2 (own_g p2 p3 p4)
    refine OwnG.go (fun _ kz => XS.astore X2.here hx rfl (hb hby at_97) rfl rfl (l' := #[.val (.int p1), .val (.int p2), .val (.int p3), .val (.int p4), .val (.int p5), .val (.int p6), .val (.int (Int32.ofNat cp)), .val (.int (Int32.ofNat n)), .val (.int sv), .val (.int tv), .val (.int qv), .val (.ref b1), .unset]) rfl kz) ?_
    show OwnG _ _ _ _ _ _ (T2.setTop (mkF m 99 #[.val (.int p1), .val (.int p2), .val (.int p3), .val (.int p4), .val (.int p5), .val (.int p6), .val (.int (Int32.ofNat cp)), .val (.int (Int32.ofNat n)), .val (.int sv), .val (.int tv), .val (.int qv), .val (.ref b1), .unset] []))
    have B153 : ∀ (T_B153 : State) (Lx : List Loc), Stand p l e room_1 s m #[(.int p1), (.int p2), (.int p3), (.int p4), (.int p5), (.int p6)] below meth c T_B153 Lx 6 29 → OwnC Z T_B153.heap n0 b1 n (own_g p2 p3 p4) → Fr n0 Lx → OwnG p.tables e below s room_1 (Q0 Z p1 p2 p3 p4 p5 p6 h0 n0) (T_B153.setTop (mkF m 153 #[.val (.int p1), .val (.int p2), .val (.int p3), .val (.int p4), .val (.int p5), .val (.int p6), .val (.int (Int32.ofNat cp)), .val (.int (Int32.ofNat n)), .val (.int sv), .val (.int tv), .val (.int qv), .val (.ref b1), .unset] [])) := by
      intro T_B153 Lx X_B153 S_B153 N_B153
      show OwnG _ _ _ _ _ _ (T_B153.setTop (mkF m 153 #[.val (.int p1), .val (.int p2), .val (.int p3), .val (.int p4), .val (.int p5), .val (.int p6), .val (.int (Int32.ofNat cp)), .val (.int (Int32.ofNat n)), .val (.int sv), .val (.int tv), .val (.int qv), .val (.ref b1), .unset] []))
      have B196 : ∀ ex : Int32, ex = own_ct (own_g p2 p3 p4) qv n → OwnG p.tables e below s room_1 (Q0 Z p1 p2 p3 p4 p5 p6 h0 n0) (T_B153.setTop (mkF m 196 #[.val (.int p1), .val (.int p2), .val (.int p3), .val (.int p4), .val (.int p5), .val (.int p6), .val (.int (Int32.ofNat cp)), .val (.int (Int32.ofNat n)), .val (.int sv), .val (.int tv), .val (.int qv), .val (.ref b1), .val (.int ex)] [])) := by
        intro ex hex
        show OwnG _ _ _ _ _ _ (T_B153.setTop (mkF m 196 #[.val (.int p1), .val (.int p2), .val (.int p3), .val (.int p4), .val (.int p5), .val (.int p6), .val (.int (Int32.ofNat cp)), .val (.int (Int32.ofNat n)), .val (.int sv), .val (.int tv), .val (.int qv), .val (.ref b1), .val (.int ex)] []))
        refine OwnG.go (fun _ kz => XS.aload X_B153.here hx rfl (hb hby at_196) rfl rfl kz) ?_
        show OwnG _ _ _ _ _ _ (T_B153.setTop (mkF m 198 #[.val (.int p1), .val (.int p2), .val (.int p3), .val (.int p4), .val (.int p5), .val (.int p6), .val (.int (Int32.ofNat cp)), .val (.int (Int32.ofNat n)), .val (.int sv), .val (.int tv), .val (.int qv), .val (.ref b1), .val (.int ex)] [(.ref b1)]))
        refine OwnG.go (fun _ kz => XS.iload X_B153.here hx rfl (hb hby at_198) rfl kz) ?_
        show OwnG _ _ _ _ _ _ (T_B153.setTop (mkF m 200 #[.val (.int p1), .val (.int p2), .val (.int p3), .val (.int p4), .val (.int p5), .val (.int p6), .val (.int (Int32.ofNat cp)), .val (.int (Int32.ofNat n)), .val (.int sv), .val (.int tv), .val (.int qv), .val (.ref b1), .val (.int ex)] [(.int qv), (.ref b1)]))
        obtain ⟨cq3, kq3, q3a, q3b, q3c⟩ := isOf hZ (rfl : T_B153.heap = T_B153.heap) S_B153.2.2.1
        obtain ⟨_, _, ⟨T3, L3, k3, n3⟩, -, X3, ⟨Lc3, hQ3, l3, y3, z3⟩, st3⟩ := X_B153.virtualBack hx (y := (⟨"com/example/shuntyard/shuntyard/table/Cards", "contains", "(I)Z"⟩ : MethodName)) (z := (⟨"com/example/shuntyard/shuntyard/table/Cards", "contains", "(I)Z"⟩ : MethodName)) hown (mvT hZ (hw _ (List.mem_of_getElem? (i := 12) rfl))) (mvT hZ (hw _ (List.mem_of_getElem? (i := 13) rfl))) (notFace_of_selects (args := #[]) (mvT hZ (hw _ (List.mem_of_getElem? (i := 15) rfl)))) (mvT hZ (hw _ (List.mem_of_getElem? (i := 15) rfl))) (mvT hZ (hw _ (List.mem_of_getElem? (i := 14) rfl))) (by decide) (backOf (W := 0) (rm3 l Z a0 hw [] b1 qv n (own_g p2 p3 p4) T_B153.heap n0 S_B153.1 S_B153) hZ (hw _ (List.mem_of_getElem? (i := 16) rfl)) (hw _ (List.mem_of_getElem? (i := 2) rfl)) (by decide) (by decide)) q3a q3c (g := (mkF m 200 #[.val (.int p1), .val (.int p2), .val (.int p3), .val (.int p4), .val (.int p5), .val (.int p6), .val (.int (Int32.ofNat cp)), .val (.int (Int32.ofNat n)), .val (.int sv), .val (.int tv), .val (.int qv), .val (.ref b1), .val (.int ex)] [(.int qv), (.ref b1)])) rfl (by rw [hml]; rfl) (Steps.refl _) (argsL := [(.int qv)]) (rest := []) (lenOf pd_3 rfl) rfl (by show 2 * 0 + _ ≤ _; exact Nat.le_of_eq rfl) (hb hby at_200) (fun _ _ => ⟨rfl, (rfl : T_B153.heap = T_B153.heap), (by decide : 6 + 0 ≤ _), (by decide : 29 + 0 ≤ _)⟩)
        dsimp only [Pt.U, Pt.locs, Pt.cells, Pt.slots] at X3 l3 y3 z3 st3 hQ3
        subst l3 y3 z3
        obtain ⟨rfl, N3q, hh3⟩ := hQ3
        have N3 := Fr.app N_B153 N3q
        refine OwnG.go (fun tz kz => st3.trans kz) ?_
        show OwnG _ _ _ _ _ _ (T3.setTop (mkF m 203 #[.val (.int p1), .val (.int p2), .val (.int p3), .val (.int p4), .val (.int p5), .val (.int p6), .val (.int (Int32.ofNat cp)), .val (.int (Int32.ofNat n)), .val (.int sv), .val (.int tv), .val (.int qv), .val (.ref b1), .val (.int ex)] [(.int (own_ct (own_g p2 p3 p4) qv n))]))
        refine OwnG.go (fun _ kz => XS.iload X3.here hx rfl (hb hby at_203) rfl kz) ?_
        show OwnG _ _ _ _ _ _ (T3.setTop (mkF m 205 #[.val (.int p1), .val (.int p2), .val (.int p3), .val (.int p4), .val (.int p5), .val (.int p6), .val (.int (Int32.ofNat cp)), .val (.int (Int32.ofNat n)), .val (.int sv), .val (.int tv), .val (.int qv), .val (.ref b1), .val (.int ex)] [(.int ex), (.int (own_ct (own_g p2 p3 p4) qv n))]))
        refine OwnG.go (fun _ kz => XS.icmpNo X3.here hx rfl (hb hby at_205) rfl (teq hex.symm).2 kz) ?_
        show OwnG _ _ _ _ _ _ (T3.setTop (mkF m 208 #[.val (.int p1), .val (.int p2), .val (.int p3), .val (.int p4), .val (.int p5), .val (.int p6), .val (.int (Int32.ofNat cp)), .val (.int (Int32.ofNat n)), .val (.int sv), .val (.int tv), .val (.int qv), .val (.ref b1), .val (.int ex)] []))
        refine OwnG.go (fun _ kz => XS.iconst X3.here hx rfl (hb hby at_208) kz) ?_
        show OwnG _ _ _ _ _ _ (T3.setTop (mkF m 209 #[.val (.int p1), .val (.int p2), .val (.int p3), .val (.int p4), .val (.int p5), .val (.int p6), .val (.int (Int32.ofNat cp)), .val (.int (Int32.ofNat n)), .val (.int sv), .val (.int tv), .val (.int qv), .val (.ref b1), .val (.int ex)] [(.int (1 : Int32))]))
        refine OwnG.go (fun _ kz => XS.goto X3.here hx rfl (pc0 := 209) (pc' := 213) rfl (hb hby at_209) (by decide) (by decide) kz) ?_
        show OwnG _ _ _ _ _ _ (T3.setTop (mkF m 213 #[.val (.int p1), .val (.int p2), .val (.int p3), .val (.int p4), .val (.int p5), .val (.int p6), .val (.int (Int32.ofNat cp)), .val (.int (Int32.ofNat n)), .val (.int sv), .val (.int tv), .val (.int qv), .val (.ref b1), .val (.int ex)] [(.int (1 : Int32))]))
        obtain ⟨fs, hr, hrun, hended, hW, hsame⟩ := X3.leave (v := some (.int (1 : Int32))) (fun h => by rw [Bd.returns] at h; cases h)
        refine ⟨_, _, retN X3 hx (t := .boolean) Bd.returns (by simp) (hb hby at_213) hr, hrun, hended, _, _, rfl, ?_, ⟨_, rfl⟩, hW, hsame.mono (by decide) (by decide)⟩
        show (Q0 Z p1 p2 p3 p4 p5 p6 h0 n0) _ T3.heap _
        exact ⟨rfl, N3⟩
      have B189 : own_ct (own_g p2 p3 p4) qv n = 1 → OwnG p.tables e below s room_1 (Q0 Z p1 p2 p3 p4 p5 p6 h0 n0) (T_B153.setTop (mkF m 189 #[.val (.int p1), .val (.int p2), .val (.int p3), .val (.int p4), .val (.int p5), .val (.int p6), .val (.int (Int32.ofNat cp)), .val (.int (Int32.ofNat n)), .val (.int sv), .val (.int tv), .val (.int qv), .val (.ref b1), .unset] [])) := by
        intro hq
        show OwnG _ _ _ _ _ _ (T_B153.setTop (mkF m 189 #[.val (.int p1), .val (.int p2), .val (.int p3), .val (.int p4), .val (.int p5), .val (.int p6), .val (.int (Int32.ofNat cp)), .val (.int (Int32.ofNat n)), .val (.int sv), .val (.int tv), .val (.int qv), .val (.ref b1), .unset] []))
        refine OwnG.go (fun _ kz => XS.iconst X_B153.here hx rfl (hb hby at_189) kz) ?_
        show OwnG _ _ _ _ _ _ (T_B153.setTop (mkF m 190 #[.val (.int p1), .val (.int p2), .val (.int p3), .val (.int p4), .val (.int p5), .val (.int p6), .val (.int (Int32.ofNat cp)), .val (.int (Int32.ofNat n)), .val (.int sv), .val (.int tv), .val (.int qv), .val (.ref b1), .unset] [(.int (1 : Int32))]))
        refine OwnG.go (fun _ kz => XS.goto X_B153.here hx rfl (pc0 := 190) (pc' := 194) rfl (hb hby at_190) (by decide) (by decide) kz) ?_
        show OwnG _ _ _ _ _ _ (T_B153.setTop (mkF m 194 #[.val (.int p1), .val (.int p2), .val (.int p3), .val (.int p4), .val (.int p5), .val (.int p6), .val (.int (Int32.ofNat cp)), .val (.int (Int32.ofNat n)), .val (.int sv), .val (.int tv), .val (.int qv), .val (.ref b1), .unset] [(.int (1 : Int32))]))
        refine OwnG.go (fun _ kz => XS.istore X_B153.here hx rfl (hb hby at_194) rfl (l' := #[.val (.int p1), .val (.int p2), .val (.int p3), .val (.int p4), .val (.int p5), .val (.int p6), .val (.int (Int32.ofNat cp)), .val (.int (Int32.ofNat n)), .val (.int sv), .val (.int tv), .val (.int qv), .val (.ref b1), .val (.int (1 : Int32))]) rfl kz) ?_
        show OwnG _ _ _ _ _ _ (T_B153.setTop (mkF m 196 #[.val (.int p1), .val (.int p2), .val (.int p3), .val (.int p4), .val (.int p5), .val (.int p6), .val (.int (Int32.ofNat cp)), .val (.int (Int32.ofNat n)), .val (.int sv), .val (.int tv), .val (.int qv), .val (.ref b1), .val (.int (1 : Int32))] []))
        exact B196 _ hq.symm
      have B193 : own_ct (own_g p2 p3 p4) qv n = 0 → OwnG p.tables e below s room_1 (Q0 Z p1 p2 p3 p4 p5 p6 h0 n0) (T_B153.setTop (mkF m 193 #[.val (.int p1), .val (.int p2), .val (.int p3), .val (.int p4), .val (.int p5), .val (.int p6), .val (.int (Int32.ofNat cp)), .val (.int (Int32.ofNat n)), .val (.int sv), .val (.int tv), .val (.int qv), .val (.ref b1), .unset] [])) := by
        intro hq
        show OwnG _ _ _ _ _ _ (T_B153.setTop (mkF m 193 #[.val (.int p1), .val (.int p2), .val (.int p3), .val (.int p4), .val (.int p5), .val (.int p6), .val (.int (Int32.ofNat cp)), .val (.int (Int32.ofNat n)), .val (.int sv), .val (.int tv), .val (.int qv), .val (.ref b1), .unset] []))
        refine OwnG.go (fun _ kz => XS.iconst X_B153.here hx rfl (hb hby at_193) kz) ?_
        show OwnG _ _ _ _ _ _ (T_B153.setTop (mkF m 194 #[.val (.int p1), .val (.int p2), .val (.int p3), .val (.int p4), .val (.int p5), .val (.int p6), .val (.int (Int32.ofNat cp)), .val (.int (Int32.ofNat n)), .val (.int sv), .val (.int tv), .val (.int qv), .val (.ref b1), .unset] [(.int (0 : Int32))]))
        refine OwnG.go (fun _ kz => XS.istore X_B153.here hx rfl (hb hby at_194) rfl (l' := #[.val (.int p1), .val (.int p2), .val (.int p3), .val (.int p4), .val (.int p5), .val (.int p6), .val (.int (Int32.ofNat cp)), .val (.int (Int32.ofNat n)), .val (.int sv), .val (.int tv), .val (.int qv), .val (.ref b1), .val (.int (0 : Int32))]) rfl kz) ?_
        show OwnG _ _ _ _ _ _ (T_B153.setTop (mkF m 196 #[.val (.int p1), .val (.int p2), .val (.int p3), .val (.int p4), .val (.int p5), .val (.int p6), .val (.int (Int32.ofNat cp)), .val (.int (Int32.ofNat n)), .val (.int sv), .val (.int tv), .val (.int qv), .val (.ref b1), .val (.int (0 : Int32))] []))
        exact B196 _ hq.symm
      have B177 : (∀ j, j < n → j < 2 → ¬ (own_g p2 p3 p4) j = qv) → OwnG p.tables e below s room_1 (Q0 Z p1 p2 p3 p4 p5 p6 h0 n0) (T_B153.setTop (mkF m 177 #[.val (.int p1), .val (.int p2), .val (.int p3), .val (.int p4), .val (.int p5), .val (.int p6), .val (.int (Int32.ofNat cp)), .val (.int (Int32.ofNat n)), .val (.int sv), .val (.int tv), .val (.int qv), .val (.ref b1), .unset] [])) := by
        intro hno
        show OwnG _ _ _ _ _ _ (T_B153.setTop (mkF m 177 #[.val (.int p1), .val (.int p2), .val (.int p3), .val (.int p4), .val (.int p5), .val (.int p6), .val (.int (Int32.ofNat cp)), .val (.int (Int32.ofNat n)), .val (.int sv), .val (.int tv), .val (.int qv), .val (.ref b1), .unset] []))
        refine OwnG.go (fun _ kz => XS.iload X_B153.here hx rfl (hb hby at_177) rfl kz) ?_
        show OwnG _ _ _ _ _ _ (T_B153.setTop (mkF m 179 #[.val (.int p1), .val (.int p2), .val (.int p3), .val (.int p4), .val (.int p5), .val (.int p6), .val (.int (Int32.ofNat cp)), .val (.int (Int32.ofNat n)), .val (.int sv), .val (.int tv), .val (.int qv), .val (.ref b1), .unset] [(.int (Int32.ofNat n))]))
        refine OwnG.go (fun _ kz => XS.iconst X_B153.here hx rfl (hb hby at_179) kz) ?_
        show OwnG _ _ _ _ _ _ (T_B153.setTop (mkF m 180 #[.val (.int p1), .val (.int p2), .val (.int p3), .val (.int p4), .val (.int p5), .val (.int p6), .val (.int (Int32.ofNat cp)), .val (.int (Int32.ofNat n)), .val (.int sv), .val (.int tv), .val (.int qv), .val (.ref b1), .unset] [(.int (3 : Int32)), (.int (Int32.ofNat n))]))
        by_cases c1 : (Int32.ofNat n) < (3 : Int32)
        · have _u := ()
          refine OwnG.go (fun _ kz => XS.icmpYes X_B153.here hx rfl (pc0 := 180) (pc' := 193) rfl (hb hby at_180) rfl (tlt c1).1 (by decide) (by decide) kz) ?_
          show OwnG _ _ _ _ _ _ (T_B153.setTop (mkF m 193 #[.val (.int p1), .val (.int p2), .val (.int p3), .val (.int p4), .val (.int p5), .val (.int p6), .val (.int (Int32.ofNat cp)), .val (.int (Int32.ofNat n)), .val (.int sv), .val (.int tv), .val (.int qv), .val (.ref b1), .unset] []))
          have hq : n < 3 := (own_lt (i := n) (j := 3) (by omega) (by omega)).mp c1
          exact B193 (own_ct_0 fun j h => (show ∀ j, j < n → j < 3 → ¬ (own_g p2 p3 p4) j = qv from (fun j h1 h2 => hno j h1 (by omega))) j h (by omega))
        · have _u := ()
          refine OwnG.go (fun _ kz => XS.icmpNo X_B153.here hx rfl (hb hby at_180) rfl (flt c1).1 kz) ?_
          show OwnG _ _ _ _ _ _ (T_B153.setTop (mkF m 183 #[.val (.int p1), .val (.int p2), .val (.int p3), .val (.int p4), .val (.int p5), .val (.int p6), .val (.int (Int32.ofNat cp)), .val (.int (Int32.ofNat n)), .val (.int sv), .val (.int tv), .val (.int qv), .val (.ref b1), .unset] []))
          have hq : ¬ n < 3 := fun q => c1 ((own_lt (i := n) (j := 3) (by omega) (by omega)).mpr q)
          refine OwnG.go (fun _ kz => XS.iload X_B153.here hx rfl (hb hby at_183) rfl kz) ?_
          show OwnG _ _ _ _ _ _ (T_B153.setTop (mkF m 185 #[.val (.int p1), .val (.int p2), .val (.int p3), .val (.int p4), .val (.int p5), .val (.int p6), .val (.int (Int32.ofNat cp)), .val (.int (Int32.ofNat n)), .val (.int sv), .val (.int tv), .val (.int qv), .val (.ref b1), .unset] [(.int qv)]))
          refine OwnG.go (fun _ kz => XS.iloadN X_B153.here hx rfl (hb hby at_185) rfl kz) ?_
          show OwnG _ _ _ _ _ _ (T_B153.setTop (mkF m 186 #[.val (.int p1), .val (.int p2), .val (.int p3), .val (.int p4), .val (.int p5), .val (.int p6), .val (.int (Int32.ofNat cp)), .val (.int (Int32.ofNat n)), .val (.int sv), .val (.int tv), .val (.int qv), .val (.ref b1), .unset] [(.int p4), (.int qv)]))
          by_cases c2 : qv = p4
          · have _u := ()
            refine OwnG.go (fun _ kz => XS.icmpNo X_B153.here hx rfl (hb hby at_186) rfl (teq c2).2 kz) ?_
            show OwnG _ _ _ _ _ _ (T_B153.setTop (mkF m 189 #[.val (.int p1), .val (.int p2), .val (.int p3), .val (.int p4), .val (.int p5), .val (.int p6), .val (.int (Int32.ofNat cp)), .val (.int (Int32.ofNat n)), .val (.int sv), .val (.int tv), .val (.int qv), .val (.ref b1), .unset] []))
            exact B189 (own_ct_1 (j := 2) (by omega) (by omega) (show p4 = qv from c2.symm))
          · have _u := ()
            refine OwnG.go (fun _ kz => XS.icmpYes X_B153.here hx rfl (pc0 := 186) (pc' := 193) rfl (hb hby at_186) rfl (feq c2).2 (by decide) (by decide) kz) ?_
            show OwnG _ _ _ _ _ _ (T_B153.setTop (mkF m 193 #[.val (.int p1), .val (.int p2), .val (.int p3), .val (.int p4), .val (.int p5), .val (.int p6), .val (.int (Int32.ofNat cp)), .val (.int (Int32.ofNat n)), .val (.int sv), .val (.int tv), .val (.int qv), .val (.ref b1), .unset] []))
            exact B193 (own_ct_0 fun j h => (show ∀ j, j < n → j < 3 → ¬ (own_g p2 p3 p4) j = qv from (fun j h1 h2 => by
                  by_cases u : j = 2
                  · subst u; exact fun q => c2 (show qv = p4 from q.symm)
                  · exact hno j h1 (by omega))) j h (by omega))
      have B165 : (∀ j, j < n → j < 1 → ¬ (own_g p2 p3 p4) j = qv) → OwnG p.tables e below s room_1 (Q0 Z p1 p2 p3 p4 p5 p6 h0 n0) (T_B153.setTop (mkF m 165 #[.val (.int p1), .val (.int p2), .val (.int p3), .val (.int p4), .val (.int p5), .val (.int p6), .val (.int (Int32.ofNat cp)), .val (.int (Int32.ofNat n)), .val (.int sv), .val (.int tv), .val (.int qv), .val (.ref b1), .unset] [])) := by
        intro hno
        show OwnG _ _ _ _ _ _ (T_B153.setTop (mkF m 165 #[.val (.int p1), .val (.int p2), .val (.int p3), .val (.int p4), .val (.int p5), .val (.int p6), .val (.int (Int32.ofNat cp)), .val (.int (Int32.ofNat n)), .val (.int sv), .val (.int tv), .val (.int qv), .val (.ref b1), .unset] []))
        refine OwnG.go (fun _ kz => XS.iload X_B153.here hx rfl (hb hby at_165) rfl kz) ?_
        show OwnG _ _ _ _ _ _ (T_B153.setTop (mkF m 167 #[.val (.int p1), .val (.int p2), .val (.int p3), .val (.int p4), .val (.int p5), .val (.int p6), .val (.int (Int32.ofNat cp)), .val (.int (Int32.ofNat n)), .val (.int sv), .val (.int tv), .val (.int qv), .val (.ref b1), .unset] [(.int (Int32.ofNat n))]))
        refine OwnG.go (fun _ kz => XS.iconst X_B153.here hx rfl (hb hby at_167) kz) ?_
        show OwnG _ _ _ _ _ _ (T_B153.setTop (mkF m 168 #[.val (.int p1), .val (.int p2), .val (.int p3), .val (.int p4), .val (.int p5), .val (.int p6), .val (.int (Int32.ofNat cp)), .val (.int (Int32.ofNat n)), .val (.int sv), .val (.int tv), .val (.int qv), .val (.ref b1), .unset] [(.int (2 : Int32)), (.int (Int32.ofNat n))]))
        by_cases c1 : (Int32.ofNat n) < (2 : Int32)
        · have _u := ()
          refine OwnG.go (fun _ kz => XS.icmpYes X_B153.here hx rfl (pc0 := 168) (pc' := 177) rfl (hb hby at_168) rfl (tlt c1).1 (by decide) (by decide) kz) ?_
          show OwnG _ _ _ _ _ _ (T_B153.setTop (mkF m 177 #[.val (.int p1), .val (.int p2), .val (.int p3), .val (.int p4), .val (.int p5), .val (.int p6), .val (.int (Int32.ofNat cp)), .val (.int (Int32.ofNat n)), .val (.int sv), .val (.int tv), .val (.int qv), .val (.ref b1), .unset] []))
          have hq : n < 2 := (own_lt (i := n) (j := 2) (by omega) (by omega)).mp c1
          exact B177 (fun j h1 h2 => hno j h1 (by omega))
        · have _u := ()
          refine OwnG.go (fun _ kz => XS.icmpNo X_B153.here hx rfl (hb hby at_168) rfl (flt c1).1 kz) ?_
          show OwnG _ _ _ _ _ _ (T_B153.setTop (mkF m 171 #[.val (.int p1), .val (.int p2), .val (.int p3), .val (.int p4), .val (.int p5), .val (.int p6), .val (.int (Int32.ofNat cp)), .val (.int (Int32.ofNat n)), .val (.int sv), .val (.int tv), .val (.int qv), .val (.ref b1), .unset] []))
          have hq : ¬ n < 2 := fun q => c1 ((own_lt (i := n) (j := 2) (by omega) (by omega)).mpr q)
          refine OwnG.go (fun _ kz => XS.iload X_B153.here hx rfl (hb hby at_171) rfl kz) ?_
          show OwnG _ _ _ _ _ _ (T_B153.setTop (mkF m 173 #[.val (.int p1), .val (.int p2), .val (.int p3), .val (.int p4), .val (.int p5), .val (.int p6), .val (.int (Int32.ofNat cp)), .val (.int (Int32.ofNat n)), .val (.int sv), .val (.int tv), .val (.int qv), .val (.ref b1), .unset] [(.int qv)]))
          refine OwnG.go (fun _ kz => XS.iloadN X_B153.here hx rfl (hb hby at_173) rfl kz) ?_
          show OwnG _ _ _ _ _ _ (T_B153.setTop (mkF m 174 #[.val (.int p1), .val (.int p2), .val (.int p3), .val (.int p4), .val (.int p5), .val (.int p6), .val (.int (Int32.ofNat cp)), .val (.int (Int32.ofNat n)), .val (.int sv), .val (.int tv), .val (.int qv), .val (.ref b1), .unset] [(.int p3), (.int qv)]))
          by_cases c2 : qv = p3
          · have _u := ()
            refine OwnG.go (fun _ kz => XS.icmpYes X_B153.here hx rfl (pc0 := 174) (pc' := 189) rfl (hb hby at_174) rfl (teq c2).1 (by decide) (by decide) kz) ?_
            show OwnG _ _ _ _ _ _ (T_B153.setTop (mkF m 189 #[.val (.int p1), .val (.int p2), .val (.int p3), .val (.int p4), .val (.int p5), .val (.int p6), .val (.int (Int32.ofNat cp)), .val (.int (Int32.ofNat n)), .val (.int sv), .val (.int tv), .val (.int qv), .val (.ref b1), .unset] []))
            exact B189 (own_ct_1 (j := 1) (by omega) (by omega) (show p3 = qv from c2.symm))
          · have _u := ()
            refine OwnG.go (fun _ kz => XS.icmpNo X_B153.here hx rfl (hb hby at_174) rfl (feq c2).1 kz) ?_
            show OwnG _ _ _ _ _ _ (T_B153.setTop (mkF m 177 #[.val (.int p1), .val (.int p2), .val (.int p3), .val (.int p4), .val (.int p5), .val (.int p6), .val (.int (Int32.ofNat cp)), .val (.int (Int32.ofNat n)), .val (.int sv), .val (.int tv), .val (.int qv), .val (.ref b1), .unset] []))
            exact B177 (fun j h1 h2 => by
                  by_cases u : j = 1
                  · subst u; exact fun q => c2 (show qv = p3 from q.symm)
                  · exact hno j h1 (by omega))
      have B153' : (∀ j, j < n → j < 0 → ¬ (own_g p2 p3 p4) j = qv) → OwnG p.tables e below s room_1 (Q0 Z p1 p2 p3 p4 p5 p6 h0 n0) (T_B153.setTop (mkF m 153 #[.val (.int p1), .val (.int p2), .val (.int p3), .val (.int p4), .val (.int p5), .val (.int p6), .val (.int (Int32.ofNat cp)), .val (.int (Int32.ofNat n)), .val (.int sv), .val (.int tv), .val (.int qv), .val (.ref b1), .unset] [])) := by
        intro hno
        show OwnG _ _ _ _ _ _ (T_B153.setTop (mkF m 153 #[.val (.int p1), .val (.int p2), .val (.int p3), .val (.int p4), .val (.int p5), .val (.int p6), .val (.int (Int32.ofNat cp)), .val (.int (Int32.ofNat n)), .val (.int sv), .val (.int tv), .val (.int qv), .val (.ref b1), .unset] []))
        refine OwnG.go (fun _ kz => XS.iload X_B153.here hx rfl (hb hby at_153) rfl kz) ?_
        show OwnG _ _ _ _ _ _ (T_B153.setTop (mkF m 155 #[.val (.int p1), .val (.int p2), .val (.int p3), .val (.int p4), .val (.int p5), .val (.int p6), .val (.int (Int32.ofNat cp)), .val (.int (Int32.ofNat n)), .val (.int sv), .val (.int tv), .val (.int qv), .val (.ref b1), .unset] [(.int (Int32.ofNat n))]))
        refine OwnG.go (fun _ kz => XS.iconst X_B153.here hx rfl (hb hby at_155) kz) ?_
        show OwnG _ _ _ _ _ _ (T_B153.setTop (mkF m 156 #[.val (.int p1), .val (.int p2), .val (.int p3), .val (.int p4), .val (.int p5), .val (.int p6), .val (.int (Int32.ofNat cp)), .val (.int (Int32.ofNat n)), .val (.int sv), .val (.int tv), .val (.int qv), .val (.ref b1), .unset] [(.int (1 : Int32)), (.int (Int32.ofNat n))]))
        by_cases c1 : (Int32.ofNat n) < (1 : Int32)
        · have _u := ()
          refine OwnG.go (fun _ kz => XS.icmpYes X_B153.here hx rfl (pc0 := 156) (pc' := 165) rfl (hb hby at_156) rfl (tlt c1).1 (by decide) (by decide) kz) ?_
          show OwnG _ _ _ _ _ _ (T_B153.setTop (mkF m 165 #[.val (.int p1), .val (.int p2), .val (.int p3), .val (.int p4), .val (.int p5), .val (.int p6), .val (.int (Int32.ofNat cp)), .val (.int (Int32.ofNat n)), .val (.int sv), .val (.int tv), .val (.int qv), .val (.ref b1), .unset] []))
          have hq : n < 1 := (own_lt (i := n) (j := 1) (by omega) (by omega)).mp c1
          exact B165 (fun j h1 h2 => hno j h1 (by omega))
        · have _u := ()
          refine OwnG.go (fun _ kz => XS.icmpNo X_B153.here hx rfl (hb hby at_156) rfl (flt c1).1 kz) ?_
          show OwnG _ _ _ _ _ _ (T_B153.setTop (mkF m 159 #[.val (.int p1), .val (.int p2), .val (.int p3), .val (.int p4), .val (.int p5), .val (.int p6), .val (.int (Int32.ofNat cp)), .val (.int (Int32.ofNat n)), .val (.int sv), .val (.int tv), .val (.int qv), .val (.ref b1), .unset] []))
          have hq : ¬ n < 1 := fun q => c1 ((own_lt (i := n) (j := 1) (by omega) (by omega)).mpr q)
          refine OwnG.go (fun _ kz => XS.iload X_B153.here hx rfl (hb hby at_159) rfl kz) ?_
          show OwnG _ _ _ _ _ _ (T_B153.setTop (mkF m 161 #[.val (.int p1), .val (.int p2), .val (.int p3), .val (.int p4), .val (.int p5), .val (.int p6), .val (.int (Int32.ofNat cp)), .val (.int (Int32.ofNat n)), .val (.int sv), .val (.int tv), .val (.int qv), .val (.ref b1), .unset] [(.int qv)]))
          refine OwnG.go (fun _ kz => XS.iloadN X_B153.here hx rfl (hb hby at_161) rfl kz) ?_
          show OwnG _ _ _ _ _ _ (T_B153.setTop (mkF m 162 #[.val (.int p1), .val (.int p2), .val (.int p3), .val (.int p4), .val (.int p5), .val (.int p6), .val (.int (Int32.ofNat cp)), .val (.int (Int32.ofNat n)), .val (.int sv), .val (.int tv), .val (.int qv), .val (.ref b1), .unset] [(.int p2), (.int qv)]))
          by_cases c2 : qv = p2
          · have _u := ()
            refine OwnG.go (fun _ kz => XS.icmpYes X_B153.here hx rfl (pc0 := 162) (pc' := 189) rfl (hb hby at_162) rfl (teq c2).1 (by decide) (by decide) kz) ?_
            show OwnG _ _ _ _ _ _ (T_B153.setTop (mkF m 189 #[.val (.int p1), .val (.int p2), .val (.int p3), .val (.int p4), .val (.int p5), .val (.int p6), .val (.int (Int32.ofNat cp)), .val (.int (Int32.ofNat n)), .val (.int sv), .val (.int tv), .val (.int qv), .val (.ref b1), .unset] []))
            exact B189 (own_ct_1 (j := 0) (by omega) (by omega) (show p2 = qv from c2.symm))
          · have _u := ()
            refine OwnG.go (fun _ kz => XS.icmpNo X_B153.here hx rfl (hb hby at_162) rfl (feq c2).1 kz) ?_
            show OwnG _ _ _ _ _ _ (T_B153.setTop (mkF m 165 #[.val (.int p1), .val (.int p2), .val (.int p3), .val (.int p4), .val (.int p5), .val (.int p6), .val (.int (Int32.ofNat cp)), .val (.int (Int32.ofNat n)), .val (.int sv), .val (.int tv), .val (.int qv), .val (.ref b1), .unset] []))
            exact B165 (fun j h1 h2 => by
                  by_cases u : j = 0
                  · subst u; exact fun q => c2 (show qv = p2 from q.symm)
                  · exact hno j h1 (by omega))
      exact B153' (fun j _ h => absurd h (by omega))
    have B135 : ∀ (T_B135 : State) (Lx : List Loc), Stand p l e room_1 s m #[(.int p1), (.int p2), (.int p3), (.int p4), (.int p5), (.int p6)] below meth c T_B135 Lx 5 23 → OwnC Z T_B135.heap n0 b1 n (own_g p2 p3 p4) → Fr n0 Lx → OwnG p.tables e below s room_1 (Q0 Z p1 p2 p3 p4 p5 p6 h0 n0) (T_B135.setTop (mkF m 135 #[.val (.int p1), .val (.int p2), .val (.int p3), .val (.int p4), .val (.int p5), .val (.int p6), .val (.int (Int32.ofNat cp)), .val (.int (Int32.ofNat n)), .val (.int sv), .val (.int tv), .val (.int qv), .val (.ref b1), .unset] [])) := by
      intro T_B135 Lx X_B135 S_B135 N_B135
      show OwnG _ _ _ _ _ _ (T_B135.setTop (mkF m 135 #[.val (.int p1), .val (.int p2), .val (.int p3), .val (.int p4), .val (.int p5), .val (.int p6), .val (.int (Int32.ofNat cp)), .val (.int (Int32.ofNat n)), .val (.int sv), .val (.int tv), .val (.int qv), .val (.ref b1), .unset] []))
      refine OwnG.go (fun _ kz => XS.iload X_B135.here hx rfl (hb hby at_135) rfl kz) ?_
      show OwnG _ _ _ _ _ _ (T_B135.setTop (mkF m 137 #[.val (.int p1), .val (.int p2), .val (.int p3), .val (.int p4), .val (.int p5), .val (.int p6), .val (.int (Int32.ofNat cp)), .val (.int (Int32.ofNat n)), .val (.int sv), .val (.int tv), .val (.int qv), .val (.ref b1), .unset] [(.int tv)]))
      by_cases c5 : tv = (0 : Int32)
      · have _u := ()
        refine OwnG.go (fun _ kz => XS.ifYes X_B135.here hx rfl (pc0 := 137) (pc' := 153) rfl (hb hby at_137) rfl ((if0 _ _).trans (teq c5).1) (by decide) (by decide) kz) ?_
        show OwnG _ _ _ _ _ _ (T_B135.setTop (mkF m 153 #[.val (.int p1), .val (.int p2), .val (.int p3), .val (.int p4), .val (.int p5), .val (.int p6), .val (.int (Int32.ofNat cp)), .val (.int (Int32.ofNat n)), .val (.int sv), .val (.int tv), .val (.int qv), .val (.ref b1), .unset] []))
        exact B153 _ _ (own_stand X_B135 (by decide) (by decide)) S_B135 N_B135
      · have _u := ()
        refine OwnG.go (fun _ kz => XS.ifNo X_B135.here hx rfl (hb hby at_137) rfl ((if0 _ _).trans (feq c5).1) kz) ?_
        show OwnG _ _ _ _ _ _ (T_B135.setTop (mkF m 140 #[.val (.int p1), .val (.int p2), .val (.int p3), .val (.int p4), .val (.int p5), .val (.int p6), .val (.int (Int32.ofNat cp)), .val (.int (Int32.ofNat n)), .val (.int sv), .val (.int tv), .val (.int qv), .val (.ref b1), .unset] []))
        refine OwnG.go (fun _ kz => XS.aload X_B135.here hx rfl (hb hby at_140) rfl rfl kz) ?_
        show OwnG _ _ _ _ _ _ (T_B135.setTop (mkF m 142 #[.val (.int p1), .val (.int p2), .val (.int p3), .val (.int p4), .val (.int p5), .val (.int p6), .val (.int (Int32.ofNat cp)), .val (.int (Int32.ofNat n)), .val (.int sv), .val (.int tv), .val (.int qv), .val (.ref b1), .unset] [(.ref b1)]))
        refine OwnG.go (fun _ kz => XS.iload X_B135.here hx rfl (hb hby at_142) rfl kz) ?_
        show OwnG _ _ _ _ _ _ (T_B135.setTop (mkF m 144 #[.val (.int p1), .val (.int p2), .val (.int p3), .val (.int p4), .val (.int p5), .val (.int p6), .val (.int (Int32.ofNat cp)), .val (.int (Int32.ofNat n)), .val (.int sv), .val (.int tv), .val (.int qv), .val (.ref b1), .unset] [(.int p5), (.ref b1)]))
        obtain ⟨cq4, kq4, q4a, q4b, q4c⟩ := isOf hZ (rfl : T_B135.heap = T_B135.heap) S_B135.2.2.1
        obtain ⟨_, _, ⟨T4, L4, k4, n4⟩, -, X4, ⟨Lc4, hQ4, l4, y4, z4⟩, st4⟩ := X_B135.virtualBack hx (y := (⟨"com/example/shuntyard/shuntyard/table/Cards", "add", "(I)V"⟩ : MethodName)) (z := (⟨"com/example/shuntyard/shuntyard/table/Cards", "add", "(I)V"⟩ : MethodName)) hown (mvT hZ (hw _ (List.mem_of_getElem? (i := 23) rfl))) (mvT hZ (hw _ (List.mem_of_getElem? (i := 24) rfl))) (notFace_of_selects (args := #[]) (mvT hZ (hw _ (List.mem_of_getElem? (i := 26) rfl)))) (mvT hZ (hw _ (List.mem_of_getElem? (i := 26) rfl))) (mvT hZ (hw _ (List.mem_of_getElem? (i := 25) rfl))) (by decide) (backOf (W := 0) (rm5 l Z a0 hw [] b1 p5 n (own_g p2 p3 p4) T_B135.heap n0 S_B135.1 S_B135 (by omega)) hZ (hw _ (List.mem_of_getElem? (i := 27) rfl)) (hw _ (List.mem_of_getElem? (i := 2) rfl)) (by decide) (by decide)) q4a q4c (g := (mkF m 144 #[.val (.int p1), .val (.int p2), .val (.int p3), .val (.int p4), .val (.int p5), .val (.int p6), .val (.int (Int32.ofNat cp)), .val (.int (Int32.ofNat n)), .val (.int sv), .val (.int tv), .val (.int qv), .val (.ref b1), .unset] [(.int p5), (.ref b1)])) rfl (by rw [hml]; rfl) (Steps.refl _) (argsL := [(.int p5)]) (rest := []) (lenOf pd_5 rfl) rfl (by show 2 * 0 + _ ≤ _; exact Nat.le_of_eq rfl) (hb hby at_144) (fun _ _ => ⟨rfl, (rfl : T_B135.heap = T_B135.heap), (by decide : 5 + 1 ≤ _), (by decide : 23 + 6 ≤ _)⟩)
        dsimp only [Pt.U, Pt.locs, Pt.cells, Pt.slots] at X4 l4 y4 z4 st4 hQ4
        subst l4 y4 z4
        obtain ⟨rfl, N4q, S4⟩ := hQ4
        have N4 := Fr.app N_B135 N4q
        refine OwnG.go (fun tz kz => st4.trans kz) ?_
        show OwnG _ _ _ _ _ _ (T4.setTop (mkF m 147 #[.val (.int p1), .val (.int p2), .val (.int p3), .val (.int p4), .val (.int p5), .val (.int p6), .val (.int (Int32.ofNat cp)), .val (.int (Int32.ofNat n)), .val (.int sv), .val (.int tv), .val (.int qv), .val (.ref b1), .unset] []))
        refine OwnG.go (fun _ kz => XS.aload X4.here hx rfl (hb hby at_147) rfl rfl kz) ?_
        show OwnG _ _ _ _ _ _ (T4.setTop (mkF m 149 #[.val (.int p1), .val (.int p2), .val (.int p3), .val (.int p4), .val (.int p5), .val (.int p6), .val (.int (Int32.ofNat cp)), .val (.int (Int32.ofNat n)), .val (.int sv), .val (.int tv), .val (.int qv), .val (.ref b1), .unset] [(.ref b1)]))
        obtain ⟨cq5, kq5, q5a, q5b, q5c⟩ := isOf hZ (rfl : T4.heap = T4.heap) S4.2.2.1
        obtain ⟨_, _, ⟨T5, L5, k5, n5⟩, -, X5, ⟨Lc5, hQ5, l5, y5, z5⟩, st5⟩ := X4.virtualBack hx (y := (⟨"com/example/shuntyard/shuntyard/table/Cards", "removeLast", "()I"⟩ : MethodName)) (z := (⟨"com/example/shuntyard/shuntyard/table/Cards", "removeLast", "()I"⟩ : MethodName)) hown (mvT hZ (hw _ (List.mem_of_getElem? (i := 43) rfl))) (mvT hZ (hw _ (List.mem_of_getElem? (i := 44) rfl))) (notFace_of_selects (args := #[]) (mvT hZ (hw _ (List.mem_of_getElem? (i := 46) rfl)))) (mvT hZ (hw _ (List.mem_of_getElem? (i := 46) rfl))) (mvT hZ (hw _ (List.mem_of_getElem? (i := 45) rfl))) (by decide) (backOf (W := 0) (rm9 l Z a0 hw [] b1 (n + 1) _ T4.heap n0 S4.1 S4 (by omega)) hZ (hw _ (List.mem_of_getElem? (i := 47) rfl)) (hw _ (List.mem_of_getElem? (i := 2) rfl)) (by decide) (by decide)) q5a q5c (g := (mkF m 149 #[.val (.int p1), .val (.int p2), .val (.int p3), .val (.int p4), .val (.int p5), .val (.int p6), .val (.int (Int32.ofNat cp)), .val (.int (Int32.ofNat n)), .val (.int sv), .val (.int tv), .val (.int qv), .val (.ref b1), .unset] [(.ref b1)])) rfl (by rw [hml]; rfl) (Steps.refl _) (argsL := []) (rest := []) (lenOf pd_9 rfl) rfl (by show 2 * 0 + _ ≤ _; exact Nat.le_of_eq rfl) (hb hby at_149) (fun _ _ => ⟨rfl, (rfl : T4.heap = T4.heap), (by decide : 6 + 0 ≤ _), (by decide : 29 + 0 ≤ _)⟩)
        dsimp only [Pt.U, Pt.locs, Pt.cells, Pt.slots] at X5 l5 y5 z5 st5 hQ5
        subst l5 y5 z5
        obtain ⟨⟨yv, rfl⟩, N5q, S5⟩ := hQ5
        have N5 := Fr.app N4 N5q
        refine OwnG.go (fun tz kz => st5.trans kz) ?_
        show OwnG _ _ _ _ _ _ (T5.setTop (mkF m 152 #[.val (.int p1), .val (.int p2), .val (.int p3), .val (.int p4), .val (.int p5), .val (.int p6), .val (.int (Int32.ofNat cp)), .val (.int (Int32.ofNat n)), .val (.int sv), .val (.int tv), .val (.int qv), .val (.ref b1), .unset] [(.int yv)]))
        rw [Nat.add_sub_cancel] at S5
        refine OwnG.go (fun _ kz => XS.pop X5.here hx rfl (hb hby at_152) rfl rfl kz) ?_
        show OwnG _ _ _ _ _ _ (T5.setTop (mkF m 153 #[.val (.int p1), .val (.int p2), .val (.int p3), .val (.int p4), .val (.int p5), .val (.int p6), .val (.int (Int32.ofNat cp)), .val (.int (Int32.ofNat n)), .val (.int sv), .val (.int tv), .val (.int qv), .val (.ref b1), .unset] []))
        exact B153 _ _ X5 (S5.as fun i hi => by simp only [if_neg (show ¬ i = n by omega)]) N5
    have B123 : ∀ (T_B123 : State) (Lx : List Loc), Stand p l e room_1 s m #[(.int p1), (.int p2), (.int p3), (.int p4), (.int p5), (.int p6)] below meth c T_B123 Lx 4 17 → OwnC Z T_B123.heap n0 b1 (min n 2) (own_g p2 p3 p4) → Fr n0 Lx → OwnG p.tables e below s room_1 (Q0 Z p1 p2 p3 p4 p5 p6 h0 n0) (T_B123.setTop (mkF m 123 #[.val (.int p1), .val (.int p2), .val (.int p3), .val (.int p4), .val (.int p5), .val (.int p6), .val (.int (Int32.ofNat cp)), .val (.int (Int32.ofNat n)), .val (.int sv), .val (.int tv), .val (.int qv), .val (.ref b1), .unset] [])) := by
      intro T_B123 Lx X_B123 S_B123 N_B123
      show OwnG _ _ _ _ _ _ (T_B123.setTop (mkF m 123 #[.val (.int p1), .val (.int p2), .val (.int p3), .val (.int p4), .val (.int p5), .val (.int p6), .val (.int (Int32.ofNat cp)), .val (.int (Int32.ofNat n)), .val (.int sv), .val (.int tv), .val (.int qv), .val (.ref b1), .unset] []))
      refine OwnG.go (fun _ kz => XS.iload X_B123.here hx rfl (hb hby at_123) rfl kz) ?_
      show OwnG _ _ _ _ _ _ (T_B123.setTop (mkF m 125 #[.val (.int p1), .val (.int p2), .val (.int p3), .val (.int p4), .val (.int p5), .val (.int p6), .val (.int (Int32.ofNat cp)), .val (.int (Int32.ofNat n)), .val (.int sv), .val (.int tv), .val (.int qv), .val (.ref b1), .unset] [(.int (Int32.ofNat n))]))
      refine OwnG.go (fun _ kz => XS.iconst X_B123.here hx rfl (hb hby at_125) kz) ?_
      show OwnG _ _ _ _ _ _ (T_B123.setTop (mkF m 126 #[.val (.int p1), .val (.int p2), .val (.int p3), .val (.int p4), .val (.int p5), .val (.int p6), .val (.int (Int32.ofNat cp)), .val (.int (Int32.ofNat n)), .val (.int sv), .val (.int tv), .val (.int qv), .val (.ref b1), .unset] [(.int (3 : Int32)), (.int (Int32.ofNat n))]))
      by_cases c3 : (Int32.ofNat n) < (3 : Int32)
      · have _u := ()
        refine OwnG.go (fun _ kz => XS.icmpYes X_B123.here hx rfl (pc0 := 126) (pc' := 135) rfl (hb hby at_126) rfl (tlt c3).1 (by decide) (by decide) kz) ?_
        show OwnG _ _ _ _ _ _ (T_B123.setTop (mkF m 135 #[.val (.int p1), .val (.int p2), .val (.int p3), .val (.int p4), .val (.int p5), .val (.int p6), .val (.int (Int32.ofNat cp)), .val (.int (Int32.ofNat n)), .val (.int sv), .val (.int tv), .val (.int qv), .val (.ref b1), .unset] []))
        have hq : n < 3 := (own_lt (i := n) (j := 3) (by omega) (by omega)).mp c3
        have he : (min n 2) = n := by omega
        exact B135 _ _ (own_stand X_B123 (by decide) (by decide)) (he ▸ S_B123) N_B123
      · have _u := ()
        refine OwnG.go (fun _ kz => XS.icmpNo X_B123.here hx rfl (hb hby at_126) rfl (flt c3).1 kz) ?_
        show OwnG _ _ _ _ _ _ (T_B123.setTop (mkF m 129 #[.val (.int p1), .val (.int p2), .val (.int p3), .val (.int p4), .val (.int p5), .val (.int p6), .val (.int (Int32.ofNat cp)), .val (.int (Int32.ofNat n)), .val (.int sv), .val (.int tv), .val (.int qv), .val (.ref b1), .unset] []))
        have hq : ¬ n < 3 := fun q => c3 ((own_lt (i := n) (j := 3) (by omega) (by omega)).mpr q)
        have hcur : (min n 2) = 2 := by omega
        have he : 3 = n := by omega
        refine OwnG.go (fun _ kz => XS.aload X_B123.here hx rfl (hb hby at_129) rfl rfl kz) ?_
        show OwnG _ _ _ _ _ _ (T_B123.setTop (mkF m 131 #[.val (.int p1), .val (.int p2), .val (.int p3), .val (.int p4), .val (.int p5), .val (.int p6), .val (.int (Int32.ofNat cp)), .val (.int (Int32.ofNat n)), .val (.int sv), .val (.int tv), .val (.int qv), .val (.ref b1), .unset] [(.ref b1)]))
        refine OwnG.go (fun _ kz => XS.iloadN X_B123.here hx rfl (hb hby at_131) rfl kz) ?_
        show OwnG _ _ _ _ _ _ (T_B123.setTop (mkF m 132 #[.val (.int p1), .val (.int p2), .val (.int p3), .val (.int p4), .val (.int p5), .val (.int p6), .val (.int (Int32.ofNat cp)), .val (.int (Int32.ofNat n)), .val (.int sv), .val (.int tv), .val (.int qv), .val (.ref b1), .unset] [(.int p4), (.ref b1)]))
        rw [hcur] at S_B123
        obtain ⟨cq6, kq6, q6a, q6b, q6c⟩ := isOf hZ (rfl : T_B123.heap = T_B123.heap) S_B123.2.2.1
        obtain ⟨_, _, ⟨T6, L6, k6, n6⟩, -, X6, ⟨Lc6, hQ6, l6, y6, z6⟩, st6⟩ := X_B123.virtualBack hx (y := (⟨"com/example/shuntyard/shuntyard/table/Cards", "add", "(I)V"⟩ : MethodName)) (z := (⟨"com/example/shuntyard/shuntyard/table/Cards", "add", "(I)V"⟩ : MethodName)) hown (mvT hZ (hw _ (List.mem_of_getElem? (i := 23) rfl))) (mvT hZ (hw _ (List.mem_of_getElem? (i := 24) rfl))) (notFace_of_selects (args := #[]) (mvT hZ (hw _ (List.mem_of_getElem? (i := 26) rfl)))) (mvT hZ (hw _ (List.mem_of_getElem? (i := 26) rfl))) (mvT hZ (hw _ (List.mem_of_getElem? (i := 25) rfl))) (by decide) (backOf (W := 0) (rm5 l Z a0 hw [] b1 p4 2 (own_g p2 p3 p4) T_B123.heap n0 S_B123.1 S_B123 (by omega)) hZ (hw _ (List.mem_of_getElem? (i := 27) rfl)) (hw _ (List.mem_of_getElem? (i := 2) rfl)) (by decide) (by decide)) q6a q6c (g := (mkF m 132 #[.val (.int p1), .val (.int p2), .val (.int p3), .val (.int p4), .val (.int p5), .val (.int p6), .val (.int (Int32.ofNat cp)), .val (.int (Int32.ofNat n)), .val (.int sv), .val (.int tv), .val (.int qv), .val (.ref b1), .unset] [(.int p4), (.ref b1)])) rfl (by rw [hml]; rfl) (Steps.refl _) (argsL := [(.int p4)]) (rest := []) (lenOf pd_5 rfl) rfl (by show 2 * 0 + _ ≤ _; exact Nat.le_of_eq rfl) (hb hby at_132) (fun _ _ => ⟨rfl, (rfl : T_B123.heap = T_B123.heap), (by decide : 4 + 1 ≤ _), (by decide : 17 + 6 ≤ _)⟩)
        dsimp only [Pt.U, Pt.locs, Pt.cells, Pt.slots] at X6 l6 y6 z6 st6 hQ6
        subst l6 y6 z6
        obtain ⟨rfl, N6q, S6⟩ := hQ6
        have N6 := Fr.app N_B123 N6q
        refine OwnG.go (fun tz kz => st6.trans kz) ?_
        show OwnG _ _ _ _ _ _ (T6.setTop (mkF m 135 #[.val (.int p1), .val (.int p2), .val (.int p3), .val (.int p4), .val (.int p5), .val (.int p6), .val (.int (Int32.ofNat cp)), .val (.int (Int32.ofNat n)), .val (.int sv), .val (.int tv), .val (.int qv), .val (.ref b1), .unset] []))
        have S9 : OwnC Z T6.heap n0 b1 3 (own_g p2 p3 p4) := S6.as fun i hi => by
          by_cases u : i = 2
          · subst u; rfl
          · simp only [if_neg u]
        exact B135 _ _ X6 (he ▸ S9) N6
    have B111 : ∀ (T_B111 : State) (Lx : List Loc), Stand p l e room_1 s m #[(.int p1), (.int p2), (.int p3), (.int p4), (.int p5), (.int p6)] below meth c T_B111 Lx 3 11 → OwnC Z T_B111.heap n0 b1 (min n 1) (own_g p2 p3 p4) → Fr n0 Lx → OwnG p.tables e below s room_1 (Q0 Z p1 p2 p3 p4 p5 p6 h0 n0) (T_B111.setTop (mkF m 111 #[.val (.int p1), .val (.int p2), .val (.int p3), .val (.int p4), .val (.int p5), .val (.int p6), .val (.int (Int32.ofNat cp)), .val (.int (Int32.ofNat n)), .val (.int sv), .val (.int tv), .val (.int qv), .val (.ref b1), .unset] [])) := by
      intro T_B111 Lx X_B111 S_B111 N_B111
      show OwnG _ _ _ _ _ _ (T_B111.setTop (mkF m 111 #[.val (.int p1), .val (.int p2), .val (.int p3), .val (.int p4), .val (.int p5), .val (.int p6), .val (.int (Int32.ofNat cp)), .val (.int (Int32.ofNat n)), .val (.int sv), .val (.int tv), .val (.int qv), .val (.ref b1), .unset] []))
      refine OwnG.go (fun _ kz => XS.iload X_B111.here hx rfl (hb hby at_111) rfl kz) ?_
      show OwnG _ _ _ _ _ _ (T_B111.setTop (mkF m 113 #[.val (.int p1), .val (.int p2), .val (.int p3), .val (.int p4), .val (.int p5), .val (.int p6), .val (.int (Int32.ofNat cp)), .val (.int (Int32.ofNat n)), .val (.int sv), .val (.int tv), .val (.int qv), .val (.ref b1), .unset] [(.int (Int32.ofNat n))]))
      refine OwnG.go (fun _ kz => XS.iconst X_B111.here hx rfl (hb hby at_113) kz) ?_
      show OwnG _ _ _ _ _ _ (T_B111.setTop (mkF m 114 #[.val (.int p1), .val (.int p2), .val (.int p3), .val (.int p4), .val (.int p5), .val (.int p6), .val (.int (Int32.ofNat cp)), .val (.int (Int32.ofNat n)), .val (.int sv), .val (.int tv), .val (.int qv), .val (.ref b1), .unset] [(.int (2 : Int32)), (.int (Int32.ofNat n))]))
      by_cases c2 : (Int32.ofNat n) < (2 : Int32)
      · have _u := ()
        refine OwnG.go (fun _ kz => XS.icmpYes X_B111.here hx rfl (pc0 := 114) (pc' := 123) rfl (hb hby at_114) rfl (tlt c2).1 (by decide) (by decide) kz) ?_
        show OwnG _ _ _ _ _ _ (T_B111.setTop (mkF m 123 #[.val (.int p1), .val (.int p2), .val (.int p3), .val (.int p4), .val (.int p5), .val (.int p6), .val (.int (Int32.ofNat cp)), .val (.int (Int32.ofNat n)), .val (.int sv), .val (.int tv), .val (.int qv), .val (.ref b1), .unset] []))
        have hq : n < 2 := (own_lt (i := n) (j := 2) (by omega) (by omega)).mp c2
        have he : (min n 1) = (min n 2) := by omega
        exact B123 _ _ (own_stand X_B111 (by decide) (by decide)) (he ▸ S_B111) N_B111
      · have _u := ()
        refine OwnG.go (fun _ kz => XS.icmpNo X_B111.here hx rfl (hb hby at_114) rfl (flt c2).1 kz) ?_
        show OwnG _ _ _ _ _ _ (T_B111.setTop (mkF m 117 #[.val (.int p1), .val (.int p2), .val (.int p3), .val (.int p4), .val (.int p5), .val (.int p6), .val (.int (Int32.ofNat cp)), .val (.int (Int32.ofNat n)), .val (.int sv), .val (.int tv), .val (.int qv), .val (.ref b1), .unset] []))
        have hq : ¬ n < 2 := fun q => c2 ((own_lt (i := n) (j := 2) (by omega) (by omega)).mpr q)
        have hcur : (min n 1) = 1 := by omega
        have he : 2 = (min n 2) := by omega
        refine OwnG.go (fun _ kz => XS.aload X_B111.here hx rfl (hb hby at_117) rfl rfl kz) ?_
        show OwnG _ _ _ _ _ _ (T_B111.setTop (mkF m 119 #[.val (.int p1), .val (.int p2), .val (.int p3), .val (.int p4), .val (.int p5), .val (.int p6), .val (.int (Int32.ofNat cp)), .val (.int (Int32.ofNat n)), .val (.int sv), .val (.int tv), .val (.int qv), .val (.ref b1), .unset] [(.ref b1)]))
        refine OwnG.go (fun _ kz => XS.iloadN X_B111.here hx rfl (hb hby at_119) rfl kz) ?_
        show OwnG _ _ _ _ _ _ (T_B111.setTop (mkF m 120 #[.val (.int p1), .val (.int p2), .val (.int p3), .val (.int p4), .val (.int p5), .val (.int p6), .val (.int (Int32.ofNat cp)), .val (.int (Int32.ofNat n)), .val (.int sv), .val (.int tv), .val (.int qv), .val (.ref b1), .unset] [(.int p3), (.ref b1)]))
        rw [hcur] at S_B111
        obtain ⟨cq7, kq7, q7a, q7b, q7c⟩ := isOf hZ (rfl : T_B111.heap = T_B111.heap) S_B111.2.2.1
        obtain ⟨_, _, ⟨T7, L7, k7, n7⟩, -, X7, ⟨Lc7, hQ7, l7, y7, z7⟩, st7⟩ := X_B111.virtualBack hx (y := (⟨"com/example/shuntyard/shuntyard/table/Cards", "add", "(I)V"⟩ : MethodName)) (z := (⟨"com/example/shuntyard/shuntyard/table/Cards", "add", "(I)V"⟩ : MethodName)) hown (mvT hZ (hw _ (List.mem_of_getElem? (i := 23) rfl))) (mvT hZ (hw _ (List.mem_of_getElem? (i := 24) rfl))) (notFace_of_selects (args := #[]) (mvT hZ (hw _ (List.mem_of_getElem? (i := 26) rfl)))) (mvT hZ (hw _ (List.mem_of_getElem? (i := 26) rfl))) (mvT hZ (hw _ (List.mem_of_getElem? (i := 25) rfl))) (by decide) (backOf (W := 0) (rm5 l Z a0 hw [] b1 p3 1 (own_g p2 p3 p4) T_B111.heap n0 S_B111.1 S_B111 (by omega)) hZ (hw _ (List.mem_of_getElem? (i := 27) rfl)) (hw _ (List.mem_of_getElem? (i := 2) rfl)) (by decide) (by decide)) q7a q7c (g := (mkF m 120 #[.val (.int p1), .val (.int p2), .val (.int p3), .val (.int p4), .val (.int p5), .val (.int p6), .val (.int (Int32.ofNat cp)), .val (.int (Int32.ofNat n)), .val (.int sv), .val (.int tv), .val (.int qv), .val (.ref b1), .unset] [(.int p3), (.ref b1)])) rfl (by rw [hml]; rfl) (Steps.refl _) (argsL := [(.int p3)]) (rest := []) (lenOf pd_5 rfl) rfl (by show 2 * 0 + _ ≤ _; exact Nat.le_of_eq rfl) (hb hby at_120) (fun _ _ => ⟨rfl, (rfl : T_B111.heap = T_B111.heap), (by decide : 3 + 1 ≤ _), (by decide : 11 + 6 ≤ _)⟩)
        dsimp only [Pt.U, Pt.locs, Pt.cells, Pt.slots] at X7 l7 y7 z7 st7 hQ7
        subst l7 y7 z7
        obtain ⟨rfl, N7q, S7⟩ := hQ7
        have N7 := Fr.app N_B111 N7q
        refine OwnG.go (fun tz kz => st7.trans kz) ?_
        show OwnG _ _ _ _ _ _ (T7.setTop (mkF m 123 #[.val (.int p1), .val (.int p2), .val (.int p3), .val (.int p4), .val (.int p5), .val (.int p6), .val (.int (Int32.ofNat cp)), .val (.int (Int32.ofNat n)), .val (.int sv), .val (.int tv), .val (.int qv), .val (.ref b1), .unset] []))
        have S9 : OwnC Z T7.heap n0 b1 2 (own_g p2 p3 p4) := S7.as fun i hi => by
          by_cases u : i = 1
          · subst u; rfl
          · simp only [if_neg u]
        exact B123 _ _ X7 (he ▸ S9) N7
    refine OwnG.go (fun _ kz => XS.iload X2.here hx rfl (hb hby at_99) rfl kz) ?_
    show OwnG _ _ _ _ _ _ (T2.setTop (mkF m 101 #[.val (.int p1), .val (.int p2), .val (.int p3), .val (.int p4), .val (.int p5), .val (.int p6), .val (.int (Int32.ofNat cp)), .val (.int (Int32.ofNat n)), .val (.int sv), .val (.int tv), .val (.int qv), .val (.ref b1), .unset] [(.int (Int32.ofNat n))]))
    refine OwnG.go (fun _ kz => XS.iconst X2.here hx rfl (hb hby at_101) kz) ?_
    show OwnG _ _ _ _ _ _ (T2.setTop (mkF m 102 #[.val (.int p1), .val (.int p2), .val (.int p3), .val (.int p4), .val (.int p5), .val (.int p6), .val (.int (Int32.ofNat cp)), .val (.int (Int32.ofNat n)), .val (.int sv), .val (.int tv), .val (.int qv), .val (.ref b1), .unset] [(.int (1 : Int32)), (.int (Int32.ofNat n))]))
    by_cases c1 : (Int32.ofNat n) < (1 : Int32)
    · have _u := ()
      refine OwnG.go (fun _ kz => XS.icmpYes X2.here hx rfl (pc0 := 102) (pc' := 111) rfl (hb hby at_102) rfl (tlt c1).1 (by decide) (by decide) kz) ?_
      show OwnG _ _ _ _ _ _ (T2.setTop (mkF m 111 #[.val (.int p1), .val (.int p2), .val (.int p3), .val (.int p4), .val (.int p5), .val (.int p6), .val (.int (Int32.ofNat cp)), .val (.int (Int32.ofNat n)), .val (.int sv), .val (.int tv), .val (.int qv), .val (.ref b1), .unset] []))
      have hq : n < 1 := (own_lt (i := n) (j := 1) (by omega) (by omega)).mp c1
      have he : 0 = (min n 1) := by omega
      exact B111 _ _ (own_stand X2 (by decide) (by decide)) (he ▸ Sz) N2
    · have _u := ()
      refine OwnG.go (fun _ kz => XS.icmpNo X2.here hx rfl (hb hby at_102) rfl (flt c1).1 kz) ?_
      show OwnG _ _ _ _ _ _ (T2.setTop (mkF m 105 #[.val (.int p1), .val (.int p2), .val (.int p3), .val (.int p4), .val (.int p5), .val (.int p6), .val (.int (Int32.ofNat cp)), .val (.int (Int32.ofNat n)), .val (.int sv), .val (.int tv), .val (.int qv), .val (.ref b1), .unset] []))
      have hq : ¬ n < 1 := fun q => c1 ((own_lt (i := n) (j := 1) (by omega) (by omega)).mpr q)
      have hcur : 0 = 0 := by omega
      have he : 1 = (min n 1) := by omega
      refine OwnG.go (fun _ kz => XS.aload X2.here hx rfl (hb hby at_105) rfl rfl kz) ?_
      show OwnG _ _ _ _ _ _ (T2.setTop (mkF m 107 #[.val (.int p1), .val (.int p2), .val (.int p3), .val (.int p4), .val (.int p5), .val (.int p6), .val (.int (Int32.ofNat cp)), .val (.int (Int32.ofNat n)), .val (.int sv), .val (.int tv), .val (.int qv), .val (.ref b1), .unset] [(.ref b1)]))
      refine OwnG.go (fun _ kz => XS.iloadN X2.here hx rfl (hb hby at_107) rfl kz) ?_
      show OwnG _ _ _ _ _ _ (T2.setTop (mkF m 108 #[.val (.int p1), .val (.int p2), .val (.int p3), .val (.int p4), .val (.int p5), .val (.int p6), .val (.int (Int32.ofNat cp)), .val (.int (Int32.ofNat n)), .val (.int sv), .val (.int tv), .val (.int qv), .val (.ref b1), .unset] [(.int p2), (.ref b1)]))
      obtain ⟨cq8, kq8, q8a, q8b, q8c⟩ := isOf hZ (rfl : T2.heap = T2.heap) Sz.2.2.1
      obtain ⟨_, _, ⟨T8, L8, k8, n8⟩, -, X8, ⟨Lc8, hQ8, l8, y8, z8⟩, st8⟩ := X2.virtualBack hx (y := (⟨"com/example/shuntyard/shuntyard/table/Cards", "add", "(I)V"⟩ : MethodName)) (z := (⟨"com/example/shuntyard/shuntyard/table/Cards", "add", "(I)V"⟩ : MethodName)) hown (mvT hZ (hw _ (List.mem_of_getElem? (i := 23) rfl))) (mvT hZ (hw _ (List.mem_of_getElem? (i := 24) rfl))) (notFace_of_selects (args := #[]) (mvT hZ (hw _ (List.mem_of_getElem? (i := 26) rfl)))) (mvT hZ (hw _ (List.mem_of_getElem? (i := 26) rfl))) (mvT hZ (hw _ (List.mem_of_getElem? (i := 25) rfl))) (by decide) (backOf (W := 0) (rm5 l Z a0 hw [] b1 p2 0 (own_g p2 p3 p4) T2.heap n0 Sz.1 Sz (by omega)) hZ (hw _ (List.mem_of_getElem? (i := 27) rfl)) (hw _ (List.mem_of_getElem? (i := 2) rfl)) (by decide) (by decide)) q8a q8c (g := (mkF m 108 #[.val (.int p1), .val (.int p2), .val (.int p3), .val (.int p4), .val (.int p5), .val (.int p6), .val (.int (Int32.ofNat cp)), .val (.int (Int32.ofNat n)), .val (.int sv), .val (.int tv), .val (.int qv), .val (.ref b1), .unset] [(.int p2), (.ref b1)])) rfl (by rw [hml]; rfl) (Steps.refl _) (argsL := [(.int p2)]) (rest := []) (lenOf pd_5 rfl) rfl (by show 2 * 0 + _ ≤ _; exact Nat.le_of_eq rfl) (hb hby at_108) (fun _ _ => ⟨rfl, (rfl : T2.heap = T2.heap), (by decide : 2 + 1 ≤ _), (by decide : 5 + 6 ≤ _)⟩)
      dsimp only [Pt.U, Pt.locs, Pt.cells, Pt.slots] at X8 l8 y8 z8 st8 hQ8
      subst l8 y8 z8
      obtain ⟨rfl, N8q, S8⟩ := hQ8
      have N8 := Fr.app N2 N8q
      refine OwnG.go (fun tz kz => st8.trans kz) ?_
      show OwnG _ _ _ _ _ _ (T8.setTop (mkF m 111 #[.val (.int p1), .val (.int p2), .val (.int p3), .val (.int p4), .val (.int p5), .val (.int p6), .val (.int (Int32.ofNat cp)), .val (.int (Int32.ofNat n)), .val (.int sv), .val (.int tv), .val (.int qv), .val (.ref b1), .unset] []))
      have S9 : OwnC Z T8.heap n0 b1 1 (own_g p2 p3 p4) := S8.as fun i hi => by
        by_cases u : i = 0
        · subst u; rfl
        · simp only [if_neg u]
      exact B111 _ _ X8 (he ▸ S9) N8
  have B36 : ∀ sv tv : Int32, OwnG p.tables e below s room_1 (Q0 Z p1 p2 p3 p4 p5 p6 h0 n0) (s₁.setTop (mkF m 36 #[.val (.int p1), .val (.int p2), .val (.int p3), .val (.int p4), .val (.int p5), .val (.int p6), .val (.int (Int32.ofNat cp)), .val (.int (Int32.ofNat n)), .val (.int sv), .val (.int tv), .unset, .unset, .unset] [])) := by
    intro sv tv
    show OwnG _ _ _ _ _ _ (s₁.setTop (mkF m 36 #[.val (.int p1), .val (.int p2), .val (.int p3), .val (.int p4), .val (.int p5), .val (.int p6), .val (.int (Int32.ofNat cp)), .val (.int (Int32.ofNat n)), .val (.int sv), .val (.int tv), .unset, .unset, .unset] []))
    refine OwnG.go (fun _ kz => XS.iload X0.here hx rfl (hb hby at_36) rfl kz) ?_
    show OwnG _ _ _ _ _ _ (s₁.setTop (mkF m 38 #[.val (.int p1), .val (.int p2), .val (.int p3), .val (.int p4), .val (.int p5), .val (.int p6), .val (.int (Int32.ofNat cp)), .val (.int (Int32.ofNat n)), .val (.int sv), .val (.int tv), .unset, .unset, .unset] [(.int sv)]))
    by_cases c0 : sv = (0 : Int32)
    · have _u := ()
      refine OwnG.go (fun _ kz => XS.ifNo X0.here hx rfl (hb hby at_38) rfl ((if0 _ _).trans (teq c0).2) kz) ?_
      show OwnG _ _ _ _ _ _ (s₁.setTop (mkF m 41 #[.val (.int p1), .val (.int p2), .val (.int p3), .val (.int p4), .val (.int p5), .val (.int p6), .val (.int (Int32.ofNat cp)), .val (.int (Int32.ofNat n)), .val (.int sv), .val (.int tv), .unset, .unset, .unset] []))
      refine OwnG.go (fun _ kz => XS.iloadN X0.here hx rfl (hb hby at_41) rfl kz) ?_
      show OwnG _ _ _ _ _ _ (s₁.setTop (mkF m 42 #[.val (.int p1), .val (.int p2), .val (.int p3), .val (.int p4), .val (.int p5), .val (.int p6), .val (.int (Int32.ofNat cp)), .val (.int (Int32.ofNat n)), .val (.int sv), .val (.int tv), .unset, .unset, .unset] [(.int p2)]))
      refine OwnG.go (fun _ kz => XS.istore X0.here hx rfl (hb hby at_42) rfl (l' := #[.val (.int p1), .val (.int p2), .val (.int p3), .val (.int p4), .val (.int p5), .val (.int p6), .val (.int (Int32.ofNat cp)), .val (.int (Int32.ofNat n)), .val (.int sv), .val (.int tv), .val (.int p2), .unset, .unset]) rfl kz) ?_
      show OwnG _ _ _ _ _ _ (s₁.setTop (mkF m 44 #[.val (.int p1), .val (.int p2), .val (.int p3), .val (.int p4), .val (.int p5), .val (.int p6), .val (.int (Int32.ofNat cp)), .val (.int (Int32.ofNat n)), .val (.int sv), .val (.int tv), .val (.int p2), .unset, .unset] []))
      refine OwnG.go (fun _ kz => XS.goto X0.here hx rfl (pc0 := 44) (pc' := 88) rfl (hb hby at_44) (by decide) (by decide) kz) ?_
      show OwnG _ _ _ _ _ _ (s₁.setTop (mkF m 88 #[.val (.int p1), .val (.int p2), .val (.int p3), .val (.int p4), .val (.int p5), .val (.int p6), .val (.int (Int32.ofNat cp)), .val (.int (Int32.ofNat n)), .val (.int sv), .val (.int tv), .val (.int p2), .unset, .unset] []))
      exact B88 _ _ _
    · have _u := ()
      refine OwnG.go (fun _ kz => XS.ifYes X0.here hx rfl (pc0 := 38) (pc' := 47) rfl (hb hby at_38) rfl ((if0 _ _).trans (feq c0).2) (by decide) (by decide) kz) ?_
      show OwnG _ _ _ _ _ _ (s₁.setTop (mkF m 47 #[.val (.int p1), .val (.int p2), .val (.int p3), .val (.int p4), .val (.int p5), .val (.int p6), .val (.int (Int32.ofNat cp)), .val (.int (Int32.ofNat n)), .val (.int sv), .val (.int tv), .unset, .unset, .unset] []))
      refine OwnG.go (fun _ kz => XS.iload X0.here hx rfl (hb hby at_47) rfl kz) ?_
      show OwnG _ _ _ _ _ _ (s₁.setTop (mkF m 49 #[.val (.int p1), .val (.int p2), .val (.int p3), .val (.int p4), .val (.int p5), .val (.int p6), .val (.int (Int32.ofNat cp)), .val (.int (Int32.ofNat n)), .val (.int sv), .val (.int tv), .unset, .unset, .unset] [(.int sv)]))
      refine OwnG.go (fun _ kz => XS.iconst X0.here hx rfl (hb hby at_49) kz) ?_
      show OwnG _ _ _ _ _ _ (s₁.setTop (mkF m 50 #[.val (.int p1), .val (.int p2), .val (.int p3), .val (.int p4), .val (.int p5), .val (.int p6), .val (.int (Int32.ofNat cp)), .val (.int (Int32.ofNat n)), .val (.int sv), .val (.int tv), .unset, .unset, .unset] [(.int (1 : Int32)), (.int sv)]))
      by_cases c1 : sv = (1 : Int32)
      · have _u := ()
        refine OwnG.go (fun _ kz => XS.icmpNo X0.here hx rfl (hb hby at_50) rfl (teq c1).2 kz) ?_
        show OwnG _ _ _ _ _ _ (s₁.setTop (mkF m 53 #[.val (.int p1), .val (.int p2), .val (.int p3), .val (.int p4), .val (.int p5), .val (.int p6), .val (.int (Int32.ofNat cp)), .val (.int (Int32.ofNat n)), .val (.int sv), .val (.int tv), .unset, .unset, .unset] []))
        refine OwnG.go (fun _ kz => XS.iloadN X0.here hx rfl (hb hby at_53) rfl kz) ?_
        show OwnG _ _ _ _ _ _ (s₁.setTop (mkF m 54 #[.val (.int p1), .val (.int p2), .val (.int p3), .val (.int p4), .val (.int p5), .val (.int p6), .val (.int (Int32.ofNat cp)), .val (.int (Int32.ofNat n)), .val (.int sv), .val (.int tv), .unset, .unset, .unset] [(.int p3)]))
        refine OwnG.go (fun _ kz => XS.istore X0.here hx rfl (hb hby at_54) rfl (l' := #[.val (.int p1), .val (.int p2), .val (.int p3), .val (.int p4), .val (.int p5), .val (.int p6), .val (.int (Int32.ofNat cp)), .val (.int (Int32.ofNat n)), .val (.int sv), .val (.int tv), .val (.int p3), .unset, .unset]) rfl kz) ?_
        show OwnG _ _ _ _ _ _ (s₁.setTop (mkF m 56 #[.val (.int p1), .val (.int p2), .val (.int p3), .val (.int p4), .val (.int p5), .val (.int p6), .val (.int (Int32.ofNat cp)), .val (.int (Int32.ofNat n)), .val (.int sv), .val (.int tv), .val (.int p3), .unset, .unset] []))
        refine OwnG.go (fun _ kz => XS.goto X0.here hx rfl (pc0 := 56) (pc' := 88) rfl (hb hby at_56) (by decide) (by decide) kz) ?_
        show OwnG _ _ _ _ _ _ (s₁.setTop (mkF m 88 #[.val (.int p1), .val (.int p2), .val (.int p3), .val (.int p4), .val (.int p5), .val (.int p6), .val (.int (Int32.ofNat cp)), .val (.int (Int32.ofNat n)), .val (.int sv), .val (.int tv), .val (.int p3), .unset, .unset] []))
        exact B88 _ _ _
      · have _u := ()
        refine OwnG.go (fun _ kz => XS.icmpYes X0.here hx rfl (pc0 := 50) (pc' := 59) rfl (hb hby at_50) rfl (feq c1).2 (by decide) (by decide) kz) ?_
        show OwnG _ _ _ _ _ _ (s₁.setTop (mkF m 59 #[.val (.int p1), .val (.int p2), .val (.int p3), .val (.int p4), .val (.int p5), .val (.int p6), .val (.int (Int32.ofNat cp)), .val (.int (Int32.ofNat n)), .val (.int sv), .val (.int tv), .unset, .unset, .unset] []))
        refine OwnG.go (fun _ kz => XS.iload X0.here hx rfl (hb hby at_59) rfl kz) ?_
        show OwnG _ _ _ _ _ _ (s₁.setTop (mkF m 61 #[.val (.int p1), .val (.int p2), .val (.int p3), .val (.int p4), .val (.int p5), .val (.int p6), .val (.int (Int32.ofNat cp)), .val (.int (Int32.ofNat n)), .val (.int sv), .val (.int tv), .unset, .unset, .unset] [(.int sv)]))
        refine OwnG.go (fun _ kz => XS.iconst X0.here hx rfl (hb hby at_61) kz) ?_
        show OwnG _ _ _ _ _ _ (s₁.setTop (mkF m 62 #[.val (.int p1), .val (.int p2), .val (.int p3), .val (.int p4), .val (.int p5), .val (.int p6), .val (.int (Int32.ofNat cp)), .val (.int (Int32.ofNat n)), .val (.int sv), .val (.int tv), .unset, .unset, .unset] [(.int (2 : Int32)), (.int sv)]))
        by_cases c2 : sv = (2 : Int32)
        · have _u := ()
          refine OwnG.go (fun _ kz => XS.icmpNo X0.here hx rfl (hb hby at_62) rfl (teq c2).2 kz) ?_
          show OwnG _ _ _ _ _ _ (s₁.setTop (mkF m 65 #[.val (.int p1), .val (.int p2), .val (.int p3), .val (.int p4), .val (.int p5), .val (.int p6), .val (.int (Int32.ofNat cp)), .val (.int (Int32.ofNat n)), .val (.int sv), .val (.int tv), .unset, .unset, .unset] []))
          refine OwnG.go (fun _ kz => XS.iloadN X0.here hx rfl (hb hby at_65) rfl kz) ?_
          show OwnG _ _ _ _ _ _ (s₁.setTop (mkF m 66 #[.val (.int p1), .val (.int p2), .val (.int p3), .val (.int p4), .val (.int p5), .val (.int p6), .val (.int (Int32.ofNat cp)), .val (.int (Int32.ofNat n)), .val (.int sv), .val (.int tv), .unset, .unset, .unset] [(.int p4)]))
          refine OwnG.go (fun _ kz => XS.istore X0.here hx rfl (hb hby at_66) rfl (l' := #[.val (.int p1), .val (.int p2), .val (.int p3), .val (.int p4), .val (.int p5), .val (.int p6), .val (.int (Int32.ofNat cp)), .val (.int (Int32.ofNat n)), .val (.int sv), .val (.int tv), .val (.int p4), .unset, .unset]) rfl kz) ?_
          show OwnG _ _ _ _ _ _ (s₁.setTop (mkF m 68 #[.val (.int p1), .val (.int p2), .val (.int p3), .val (.int p4), .val (.int p5), .val (.int p6), .val (.int (Int32.ofNat cp)), .val (.int (Int32.ofNat n)), .val (.int sv), .val (.int tv), .val (.int p4), .unset, .unset] []))
          refine OwnG.go (fun _ kz => XS.goto X0.here hx rfl (pc0 := 68) (pc' := 88) rfl (hb hby at_68) (by decide) (by decide) kz) ?_
          show OwnG _ _ _ _ _ _ (s₁.setTop (mkF m 88 #[.val (.int p1), .val (.int p2), .val (.int p3), .val (.int p4), .val (.int p5), .val (.int p6), .val (.int (Int32.ofNat cp)), .val (.int (Int32.ofNat n)), .val (.int sv), .val (.int tv), .val (.int p4), .unset, .unset] []))
          exact B88 _ _ _
        · have _u := ()
          refine OwnG.go (fun _ kz => XS.icmpYes X0.here hx rfl (pc0 := 62) (pc' := 71) rfl (hb hby at_62) rfl (feq c2).2 (by decide) (by decide) kz) ?_
          show OwnG _ _ _ _ _ _ (s₁.setTop (mkF m 71 #[.val (.int p1), .val (.int p2), .val (.int p3), .val (.int p4), .val (.int p5), .val (.int p6), .val (.int (Int32.ofNat cp)), .val (.int (Int32.ofNat n)), .val (.int sv), .val (.int tv), .unset, .unset, .unset] []))
          refine OwnG.go (fun _ kz => XS.iload X0.here hx rfl (hb hby at_71) rfl kz) ?_
          show OwnG _ _ _ _ _ _ (s₁.setTop (mkF m 73 #[.val (.int p1), .val (.int p2), .val (.int p3), .val (.int p4), .val (.int p5), .val (.int p6), .val (.int (Int32.ofNat cp)), .val (.int (Int32.ofNat n)), .val (.int sv), .val (.int tv), .unset, .unset, .unset] [(.int sv)]))
          refine OwnG.go (fun _ kz => XS.iconst X0.here hx rfl (hb hby at_73) kz) ?_
          show OwnG _ _ _ _ _ _ (s₁.setTop (mkF m 74 #[.val (.int p1), .val (.int p2), .val (.int p3), .val (.int p4), .val (.int p5), .val (.int p6), .val (.int (Int32.ofNat cp)), .val (.int (Int32.ofNat n)), .val (.int sv), .val (.int tv), .unset, .unset, .unset] [(.int (3 : Int32)), (.int sv)]))
          by_cases c3 : sv = (3 : Int32)
          · have _u := ()
            refine OwnG.go (fun _ kz => XS.icmpNo X0.here hx rfl (hb hby at_74) rfl (teq c3).2 kz) ?_
            show OwnG _ _ _ _ _ _ (s₁.setTop (mkF m 77 #[.val (.int p1), .val (.int p2), .val (.int p3), .val (.int p4), .val (.int p5), .val (.int p6), .val (.int (Int32.ofNat cp)), .val (.int (Int32.ofNat n)), .val (.int sv), .val (.int tv), .unset, .unset, .unset] []))
            refine OwnG.go (fun _ kz => XS.iload X0.here hx rfl (hb hby at_77) rfl kz) ?_
            show OwnG _ _ _ _ _ _ (s₁.setTop (mkF m 79 #[.val (.int p1), .val (.int p2), .val (.int p3), .val (.int p4), .val (.int p5), .val (.int p6), .val (.int (Int32.ofNat cp)), .val (.int (Int32.ofNat n)), .val (.int sv), .val (.int tv), .unset, .unset, .unset] [(.int p5)]))
            refine OwnG.go (fun _ kz => XS.istore X0.here hx rfl (hb hby at_79) rfl (l' := #[.val (.int p1), .val (.int p2), .val (.int p3), .val (.int p4), .val (.int p5), .val (.int p6), .val (.int (Int32.ofNat cp)), .val (.int (Int32.ofNat n)), .val (.int sv), .val (.int tv), .val (.int p5), .unset, .unset]) rfl kz) ?_
            show OwnG _ _ _ _ _ _ (s₁.setTop (mkF m 81 #[.val (.int p1), .val (.int p2), .val (.int p3), .val (.int p4), .val (.int p5), .val (.int p6), .val (.int (Int32.ofNat cp)), .val (.int (Int32.ofNat n)), .val (.int sv), .val (.int tv), .val (.int p5), .unset, .unset] []))
            refine OwnG.go (fun _ kz => XS.goto X0.here hx rfl (pc0 := 81) (pc' := 88) rfl (hb hby at_81) (by decide) (by decide) kz) ?_
            show OwnG _ _ _ _ _ _ (s₁.setTop (mkF m 88 #[.val (.int p1), .val (.int p2), .val (.int p3), .val (.int p4), .val (.int p5), .val (.int p6), .val (.int (Int32.ofNat cp)), .val (.int (Int32.ofNat n)), .val (.int sv), .val (.int tv), .val (.int p5), .unset, .unset] []))
            exact B88 _ _ _
          · have _u := ()
            refine OwnG.go (fun _ kz => XS.icmpYes X0.here hx rfl (pc0 := 74) (pc' := 84) rfl (hb hby at_74) rfl (feq c3).2 (by decide) (by decide) kz) ?_
            show OwnG _ _ _ _ _ _ (s₁.setTop (mkF m 84 #[.val (.int p1), .val (.int p2), .val (.int p3), .val (.int p4), .val (.int p5), .val (.int p6), .val (.int (Int32.ofNat cp)), .val (.int (Int32.ofNat n)), .val (.int sv), .val (.int tv), .unset, .unset, .unset] []))
            refine OwnG.go (fun _ kz => XS.iload X0.here hx rfl (hb hby at_84) rfl kz) ?_
            show OwnG _ _ _ _ _ _ (s₁.setTop (mkF m 86 #[.val (.int p1), .val (.int p2), .val (.int p3), .val (.int p4), .val (.int p5), .val (.int p6), .val (.int (Int32.ofNat cp)), .val (.int (Int32.ofNat n)), .val (.int sv), .val (.int tv), .unset, .unset, .unset] [(.int p6)]))
            refine OwnG.go (fun _ kz => XS.istore X0.here hx rfl (hb hby at_86) rfl (l' := #[.val (.int p1), .val (.int p2), .val (.int p3), .val (.int p4), .val (.int p5), .val (.int p6), .val (.int (Int32.ofNat cp)), .val (.int (Int32.ofNat n)), .val (.int sv), .val (.int tv), .val (.int p6), .unset, .unset]) rfl kz) ?_
            show OwnG _ _ _ _ _ _ (s₁.setTop (mkF m 88 #[.val (.int p1), .val (.int p2), .val (.int p3), .val (.int p4), .val (.int p5), .val (.int p6), .val (.int (Int32.ofNat cp)), .val (.int (Int32.ofNat n)), .val (.int sv), .val (.int tv), .val (.int p6), .unset, .unset] []))
            exact B88 _ _ _
  show OwnG p.tables e below s room_1 (Q0 Z p1 p2 p3 p4 p5 p6 h0 n0) (s₁.setTop (entryFrame m #[(.int p1), (.int p2), (.int p3), (.int p4), (.int p5), (.int p6)] maxLocals))
  refine OwnG.go (fun tz kz => castTop (ef_0 m p1 p2 p3 p4 p5 p6) kz) ?_
  show OwnG _ _ _ _ _ _ (s₁.setTop (mkF m 0 #[.val (.int p1), .val (.int p2), .val (.int p3), .val (.int p4), .val (.int p5), .val (.int p6), .unset, .unset, .unset, .unset, .unset, .unset, .unset] []))
  refine OwnG.go (fun _ kz => XS.iloadN X0.here hx rfl (hb hby at_0) rfl kz) ?_
  show OwnG _ _ _ _ _ _ (s₁.setTop (mkF m 1 #[.val (.int p1), .val (.int p2), .val (.int p3), .val (.int p4), .val (.int p5), .val (.int p6), .unset, .unset, .unset, .unset, .unset, .unset, .unset] [(.int p1)]))
  refine OwnG.go (fun _ kz => XS.iconst X0.here hx rfl (hb hby at_1) kz) ?_
  show OwnG _ _ _ _ _ _ (s₁.setTop (mkF m 2 #[.val (.int p1), .val (.int p2), .val (.int p3), .val (.int p4), .val (.int p5), .val (.int p6), .unset, .unset, .unset, .unset, .unset, .unset, .unset] [(.int (3 : Int32)), (.int p1)]))
  refine OwnG.go (fun _ kz => XS.iand X0.here hx rfl (hb hby at_2) rfl kz) ?_
  show OwnG _ _ _ _ _ _ (s₁.setTop (mkF m 3 #[.val (.int p1), .val (.int p2), .val (.int p3), .val (.int p4), .val (.int p5), .val (.int p6), .unset, .unset, .unset, .unset, .unset, .unset, .unset] [(.int (p1 &&& (3 : Int32)))]))
  rw [show (p1 &&& (3 : Int32)) = Int32.ofNat cp from ecp]
  show OwnG _ _ _ _ _ _ (s₁.setTop (mkF m 3 #[.val (.int p1), .val (.int p2), .val (.int p3), .val (.int p4), .val (.int p5), .val (.int p6), .unset, .unset, .unset, .unset, .unset, .unset, .unset] [(.int (Int32.ofNat cp))]))
  refine OwnG.go (fun _ kz => XS.istore X0.here hx rfl (hb hby at_3) rfl (l' := #[.val (.int p1), .val (.int p2), .val (.int p3), .val (.int p4), .val (.int p5), .val (.int p6), .val (.int (Int32.ofNat cp)), .unset, .unset, .unset, .unset, .unset, .unset]) rfl kz) ?_
  show OwnG _ _ _ _ _ _ (s₁.setTop (mkF m 5 #[.val (.int p1), .val (.int p2), .val (.int p3), .val (.int p4), .val (.int p5), .val (.int p6), .val (.int (Int32.ofNat cp)), .unset, .unset, .unset, .unset, .unset, .unset] []))
  refine OwnG.go (fun _ kz => XS.iloadN X0.here hx rfl (hb hby at_5) rfl kz) ?_
  show OwnG _ _ _ _ _ _ (s₁.setTop (mkF m 6 #[.val (.int p1), .val (.int p2), .val (.int p3), .val (.int p4), .val (.int p5), .val (.int p6), .val (.int (Int32.ofNat cp)), .unset, .unset, .unset, .unset, .unset, .unset] [(.int p1)]))
  refine OwnG.go (fun _ kz => XS.iconst X0.here hx rfl (hb hby at_6) kz) ?_
  show OwnG _ _ _ _ _ _ (s₁.setTop (mkF m 7 #[.val (.int p1), .val (.int p2), .val (.int p3), .val (.int p4), .val (.int p5), .val (.int p6), .val (.int (Int32.ofNat cp)), .unset, .unset, .unset, .unset, .unset, .unset] [(.int (2 : Int32)), (.int p1)]))
  refine OwnG.go (fun _ kz => XS.iushr X0.here hx rfl (hb hby at_7) rfl kz) ?_
  show OwnG _ _ _ _ _ _ (s₁.setTop (mkF m 8 #[.val (.int p1), .val (.int p2), .val (.int p3), .val (.int p4), .val (.int p5), .val (.int p6), .val (.int (Int32.ofNat cp)), .unset, .unset, .unset, .unset, .unset, .unset] [(.int ((p1.toUInt32 >>> ((2 : Int32) &&& 31).toUInt32).toInt32))]))
  refine OwnG.go (fun _ kz => XS.iconst X0.here hx rfl (hb hby at_8) kz) ?_
  show OwnG _ _ _ _ _ _ (s₁.setTop (mkF m 9 #[.val (.int p1), .val (.int p2), .val (.int p3), .val (.int p4), .val (.int p5), .val (.int p6), .val (.int (Int32.ofNat cp)), .unset, .unset, .unset, .unset, .unset, .unset] [(.int (3 : Int32)), (.int ((p1.toUInt32 >>> ((2 : Int32) &&& 31).toUInt32).toInt32))]))
  refine OwnG.go (fun _ kz => XS.iand X0.here hx rfl (hb hby at_9) rfl kz) ?_
  show OwnG _ _ _ _ _ _ (s₁.setTop (mkF m 10 #[.val (.int p1), .val (.int p2), .val (.int p3), .val (.int p4), .val (.int p5), .val (.int p6), .val (.int (Int32.ofNat cp)), .unset, .unset, .unset, .unset, .unset, .unset] [(.int (((p1.toUInt32 >>> ((2 : Int32) &&& 31).toUInt32).toInt32) &&& (3 : Int32)))]))
  rw [show (((p1.toUInt32 >>> ((2 : Int32) &&& 31).toUInt32).toInt32) &&& (3 : Int32)) = Int32.ofNat n from en]
  show OwnG _ _ _ _ _ _ (s₁.setTop (mkF m 10 #[.val (.int p1), .val (.int p2), .val (.int p3), .val (.int p4), .val (.int p5), .val (.int p6), .val (.int (Int32.ofNat cp)), .unset, .unset, .unset, .unset, .unset, .unset] [(.int (Int32.ofNat n))]))
  refine OwnG.go (fun _ kz => XS.istore X0.here hx rfl (hb hby at_10) rfl (l' := #[.val (.int p1), .val (.int p2), .val (.int p3), .val (.int p4), .val (.int p5), .val (.int p6), .val (.int (Int32.ofNat cp)), .val (.int (Int32.ofNat n)), .unset, .unset, .unset, .unset, .unset]) rfl kz) ?_
  show OwnG _ _ _ _ _ _ (s₁.setTop (mkF m 12 #[.val (.int p1), .val (.int p2), .val (.int p3), .val (.int p4), .val (.int p5), .val (.int p6), .val (.int (Int32.ofNat cp)), .val (.int (Int32.ofNat n)), .unset, .unset, .unset, .unset, .unset] []))
  refine OwnG.go (fun _ kz => XS.iloadN X0.here hx rfl (hb hby at_12) rfl kz) ?_
  show OwnG _ _ _ _ _ _ (s₁.setTop (mkF m 13 #[.val (.int p1), .val (.int p2), .val (.int p3), .val (.int p4), .val (.int p5), .val (.int p6), .val (.int (Int32.ofNat cp)), .val (.int (Int32.ofNat n)), .unset, .unset, .unset, .unset, .unset] [(.int p1)]))
  refine OwnG.go (fun _ kz => XS.iconst X0.here hx rfl (hb hby at_13) kz) ?_
  show OwnG _ _ _ _ _ _ (s₁.setTop (mkF m 14 #[.val (.int p1), .val (.int p2), .val (.int p3), .val (.int p4), .val (.int p5), .val (.int p6), .val (.int (Int32.ofNat cp)), .val (.int (Int32.ofNat n)), .unset, .unset, .unset, .unset, .unset] [(.int (4 : Int32)), (.int p1)]))
  refine OwnG.go (fun _ kz => XS.iushr X0.here hx rfl (hb hby at_14) rfl kz) ?_
  show OwnG _ _ _ _ _ _ (s₁.setTop (mkF m 15 #[.val (.int p1), .val (.int p2), .val (.int p3), .val (.int p4), .val (.int p5), .val (.int p6), .val (.int (Int32.ofNat cp)), .val (.int (Int32.ofNat n)), .unset, .unset, .unset, .unset, .unset] [(.int ((p1.toUInt32 >>> ((4 : Int32) &&& 31).toUInt32).toInt32))]))
  refine OwnG.go (fun _ kz => XS.bipush X0.here hx rfl (hb hby at_15) kz) ?_
  show OwnG _ _ _ _ _ _ (s₁.setTop (mkF m 17 #[.val (.int p1), .val (.int p2), .val (.int p3), .val (.int p4), .val (.int p5), .val (.int p6), .val (.int (Int32.ofNat cp)), .val (.int (Int32.ofNat n)), .unset, .unset, .unset, .unset, .unset] [(.int (7 : Int32)), (.int ((p1.toUInt32 >>> ((4 : Int32) &&& 31).toUInt32).toInt32))]))
  refine OwnG.go (fun _ kz => XS.iand X0.here hx rfl (hb hby at_17) rfl kz) ?_
  show OwnG _ _ _ _ _ _ (s₁.setTop (mkF m 18 #[.val (.int p1), .val (.int p2), .val (.int p3), .val (.int p4), .val (.int p5), .val (.int p6), .val (.int (Int32.ofNat cp)), .val (.int (Int32.ofNat n)), .unset, .unset, .unset, .unset, .unset] [(.int (((p1.toUInt32 >>> ((4 : Int32) &&& 31).toUInt32).toInt32) &&& (7 : Int32)))]))
  refine OwnG.go (fun _ kz => XS.istore X0.here hx rfl (hb hby at_18) rfl (l' := #[.val (.int p1), .val (.int p2), .val (.int p3), .val (.int p4), .val (.int p5), .val (.int p6), .val (.int (Int32.ofNat cp)), .val (.int (Int32.ofNat n)), .val (.int (((p1.toUInt32 >>> ((4 : Int32) &&& 31).toUInt32).toInt32) &&& (7 : Int32))), .unset, .unset, .unset, .unset]) rfl kz) ?_
  show OwnG _ _ _ _ _ _ (s₁.setTop (mkF m 20 #[.val (.int p1), .val (.int p2), .val (.int p3), .val (.int p4), .val (.int p5), .val (.int p6), .val (.int (Int32.ofNat cp)), .val (.int (Int32.ofNat n)), .val (.int (((p1.toUInt32 >>> ((4 : Int32) &&& 31).toUInt32).toInt32) &&& (7 : Int32))), .unset, .unset, .unset, .unset] []))
  refine OwnG.go (fun _ kz => XS.iloadN X0.here hx rfl (hb hby at_20) rfl kz) ?_
  show OwnG _ _ _ _ _ _ (s₁.setTop (mkF m 21 #[.val (.int p1), .val (.int p2), .val (.int p3), .val (.int p4), .val (.int p5), .val (.int p6), .val (.int (Int32.ofNat cp)), .val (.int (Int32.ofNat n)), .val (.int (((p1.toUInt32 >>> ((4 : Int32) &&& 31).toUInt32).toInt32) &&& (7 : Int32))), .unset, .unset, .unset, .unset] [(.int p1)]))
  refine OwnG.go (fun _ kz => XS.bipush X0.here hx rfl (hb hby at_21) kz) ?_
  show OwnG _ _ _ _ _ _ (s₁.setTop (mkF m 23 #[.val (.int p1), .val (.int p2), .val (.int p3), .val (.int p4), .val (.int p5), .val (.int p6), .val (.int (Int32.ofNat cp)), .val (.int (Int32.ofNat n)), .val (.int (((p1.toUInt32 >>> ((4 : Int32) &&& 31).toUInt32).toInt32) &&& (7 : Int32))), .unset, .unset, .unset, .unset] [(.int (7 : Int32)), (.int p1)]))
  refine OwnG.go (fun _ kz => XS.iushr X0.here hx rfl (hb hby at_23) rfl kz) ?_
  show OwnG _ _ _ _ _ _ (s₁.setTop (mkF m 24 #[.val (.int p1), .val (.int p2), .val (.int p3), .val (.int p4), .val (.int p5), .val (.int p6), .val (.int (Int32.ofNat cp)), .val (.int (Int32.ofNat n)), .val (.int (((p1.toUInt32 >>> ((4 : Int32) &&& 31).toUInt32).toInt32) &&& (7 : Int32))), .unset, .unset, .unset, .unset] [(.int ((p1.toUInt32 >>> ((7 : Int32) &&& 31).toUInt32).toInt32))]))
  refine OwnG.go (fun _ kz => XS.iconst X0.here hx rfl (hb hby at_24) kz) ?_
  show OwnG _ _ _ _ _ _ (s₁.setTop (mkF m 25 #[.val (.int p1), .val (.int p2), .val (.int p3), .val (.int p4), .val (.int p5), .val (.int p6), .val (.int (Int32.ofNat cp)), .val (.int (Int32.ofNat n)), .val (.int (((p1.toUInt32 >>> ((4 : Int32) &&& 31).toUInt32).toInt32) &&& (7 : Int32))), .unset, .unset, .unset, .unset] [(.int (1 : Int32)), (.int ((p1.toUInt32 >>> ((7 : Int32) &&& 31).toUInt32).toInt32))]))
  refine OwnG.go (fun _ kz => XS.iand X0.here hx rfl (hb hby at_25) rfl kz) ?_
  show OwnG _ _ _ _ _ _ (s₁.setTop (mkF m 26 #[.val (.int p1), .val (.int p2), .val (.int p3), .val (.int p4), .val (.int p5), .val (.int p6), .val (.int (Int32.ofNat cp)), .val (.int (Int32.ofNat n)), .val (.int (((p1.toUInt32 >>> ((4 : Int32) &&& 31).toUInt32).toInt32) &&& (7 : Int32))), .unset, .unset, .unset, .unset] [(.int (((p1.toUInt32 >>> ((7 : Int32) &&& 31).toUInt32).toInt32) &&& (1 : Int32)))]))
  by_cases c0 : (((p1.toUInt32 >>> ((7 : Int32) &&& 31).toUInt32).toInt32) &&& (1 : Int32)) = (0 : Int32)
  · have _u := ()
    refine OwnG.go (fun _ kz => XS.ifYes X0.here hx rfl (pc0 := 26) (pc' := 33) rfl (hb hby at_26) rfl ((if0 _ _).trans (teq c0).1) (by decide) (by decide) kz) ?_
    show OwnG _ _ _ _ _ _ (s₁.setTop (mkF m 33 #[.val (.int p1), .val (.int p2), .val (.int p3), .val (.int p4), .val (.int p5), .val (.int p6), .val (.int (Int32.ofNat cp)), .val (.int (Int32.ofNat n)), .val (.int (((p1.toUInt32 >>> ((4 : Int32) &&& 31).toUInt32).toInt32) &&& (7 : Int32))), .unset, .unset, .unset, .unset] []))
    refine OwnG.go (fun _ kz => XS.iconst X0.here hx rfl (hb hby at_33) kz) ?_
    show OwnG _ _ _ _ _ _ (s₁.setTop (mkF m 34 #[.val (.int p1), .val (.int p2), .val (.int p3), .val (.int p4), .val (.int p5), .val (.int p6), .val (.int (Int32.ofNat cp)), .val (.int (Int32.ofNat n)), .val (.int (((p1.toUInt32 >>> ((4 : Int32) &&& 31).toUInt32).toInt32) &&& (7 : Int32))), .unset, .unset, .unset, .unset] [(.int (0 : Int32))]))
    refine OwnG.go (fun _ kz => XS.istore X0.here hx rfl (hb hby at_34) rfl (l' := #[.val (.int p1), .val (.int p2), .val (.int p3), .val (.int p4), .val (.int p5), .val (.int p6), .val (.int (Int32.ofNat cp)), .val (.int (Int32.ofNat n)), .val (.int (((p1.toUInt32 >>> ((4 : Int32) &&& 31).toUInt32).toInt32) &&& (7 : Int32))), .val (.int (0 : Int32)), .unset, .unset, .unset]) rfl kz) ?_
    show OwnG _ _ _ _ _ _ (s₁.setTop (mkF m 36 #[.val (.int p1), .val (.int p2), .val (.int p3), .val (.int p4), .val (.int p5), .val (.int p6), .val (.int (Int32.ofNat cp)), .val (.int (Int32.ofNat n)), .val (.int (((p1.toUInt32 >>> ((4 : Int32) &&& 31).toUInt32).toInt32) &&& (7 : Int32))), .val (.int (0 : Int32)), .unset, .unset, .unset] []))
    exact B36 _ _
  · have _u := ()
    refine OwnG.go (fun _ kz => XS.ifNo X0.here hx rfl (hb hby at_26) rfl ((if0 _ _).trans (feq c0).1) kz) ?_
    show OwnG _ _ _ _ _ _ (s₁.setTop (mkF m 29 #[.val (.int p1), .val (.int p2), .val (.int p3), .val (.int p4), .val (.int p5), .val (.int p6), .val (.int (Int32.ofNat cp)), .val (.int (Int32.ofNat n)), .val (.int (((p1.toUInt32 >>> ((4 : Int32) &&& 31).toUInt32).toInt32) &&& (7 : Int32))), .unset, .unset, .unset, .unset] []))
    refine OwnG.go (fun _ kz => XS.iconst X0.here hx rfl (hb hby at_29) kz) ?_
    show OwnG _ _ _ _ _ _ (s₁.setTop (mkF m 30 #[.val (.int p1), .val (.int p2), .val (.int p3), .val (.int p4), .val (.int p5), .val (.int p6), .val (.int (Int32.ofNat cp)), .val (.int (Int32.ofNat n)), .val (.int (((p1.toUInt32 >>> ((4 : Int32) &&& 31).toUInt32).toInt32) &&& (7 : Int32))), .unset, .unset, .unset, .unset] [(.int (1 : Int32))]))
    refine OwnG.go (fun _ kz => XS.goto X0.here hx rfl (pc0 := 30) (pc' := 34) rfl (hb hby at_30) (by decide) (by decide) kz) ?_
    show OwnG _ _ _ _ _ _ (s₁.setTop (mkF m 34 #[.val (.int p1), .val (.int p2), .val (.int p3), .val (.int p4), .val (.int p5), .val (.int p6), .val (.int (Int32.ofNat cp)), .val (.int (Int32.ofNat n)), .val (.int (((p1.toUInt32 >>> ((4 : Int32) &&& 31).toUInt32).toInt32) &&& (7 : Int32))), .unset, .unset, .unset, .unset] [(.int (1 : Int32))]))
    refine OwnG.go (fun _ kz => XS.istore X0.here hx rfl (hb hby at_34) rfl (l' := #[.val (.int p1), .val (.int p2), .val (.int p3), .val (.int p4), .val (.int p5), .val (.int p6), .val (.int (Int32.ofNat cp)), .val (.int (Int32.ofNat n)), .val (.int (((p1.toUInt32 >>> ((4 : Int32) &&& 31).toUInt32).toInt32) &&& (7 : Int32))), .val (.int (1 : Int32)), .unset, .unset, .unset]) rfl kz) ?_
    show OwnG _ _ _ _ _ _ (s₁.setTop (mkF m 36 #[.val (.int p1), .val (.int p2), .val (.int p3), .val (.int p4), .val (.int p5), .val (.int p6), .val (.int (Int32.ofNat cp)), .val (.int (Int32.ofNat n)), .val (.int (((p1.toUInt32 >>> ((4 : Int32) &&& 31).toUInt32).toInt32) &&& (7 : Int32))), .val (.int (1 : Int32)), .unset, .unset, .unset] []))
    exact B36 _ _
set_option maxRecDepth 65536 in
set_option maxHeartbeats 40000000 in
theorem comes_1 {Post : Tables → Env → Array Value → State → Outcome → State → Prop} (hpost : ∀ tb e args s v u, (limb_1_1.after args s (.returned v) u = true ∧ limb_1_2.after args s (.returned v) u = true ∧ True) → FrameEnd s (.returned v) u (Jvm.fieldLocs frame_1_writes args s ++ Jvm.arrayLocs frame_1_arrays args s ++ Jvm.staticLocs frame_1_statics s) 24 128 → Post tb e args s (.returned v) u) :
    ArmFor flags0 classFile x code maxLocals ret World_1 tables_1 room_1 Calls_1 rest_1 Pre_1 Post := by
  intro l hfl _ _ p e ha hc hk s m args below hf hA hF happ hP
  obtain ⟨hcalls, hrest, hpre⟩ := hP
  obtain ⟨-, -, -, hnamed, -, -, -, hat⟩ := (Spec.applies_iff hf).mp happ
  obtain ⟨hg, hn⟩ := and_e (Cond.before_iff.mp (show (Jvm.Cond.and given_1 narrow_1).before args s = true from hpre))
  obtain ⟨g0, gr0⟩ := and_e hg
  obtain ⟨ga0, gr1⟩ := and_e gr0
  obtain ⟨ga1, gr2⟩ := and_e gr1
  obtain ⟨ga2, gr3⟩ := and_e gr2
  obtain ⟨ga3, gr4⟩ := and_e gr3
  obtain ⟨ga4, gr5⟩ := and_e gr4
  obtain ⟨w0, w1, w2, w3, w4, w5, rfl⟩ : ∃ w0 w1 w2 w3 w4 w5 : Value, args = #[w0, w1, w2, w3, w4, w5] := by
    have hs : args.size = 6 := by simpa [Cond.value, given_1] using g0
    obtain ⟨L⟩ := args
    match L, hs with
    | [w0, w1, w2, w3, w4, w5], _ => exact ⟨w0, w1, w2, w3, w4, w5, rfl⟩
  have hw := fun d (hd : d ∈ tables_1) => atoms_spec (ws := Jvm.Cond.code x code maxLocals ret :: tables_1) hat d (List.mem_cons_of_mem _ hd)
  obtain ⟨i0, ei0⟩ := is_v ga0
  obtain rfl : w0 = (.int i0) := Option.some.inj ei0
  obtain ⟨i1, ei1⟩ := is_v ga1
  obtain rfl : w1 = (.int i1) := Option.some.inj ei1
  obtain ⟨i2, ei2⟩ := is_v ga2
  obtain rfl : w2 = (.int i2) := Option.some.inj ei2
  obtain ⟨i3, ei3⟩ := is_v ga3
  obtain rfl : w3 = (.int i3) := Option.some.inj ei3
  obtain ⟨i4, ei4⟩ := is_v ga4
  obtain rfl : w4 = (.int i4) := Option.some.inj ei4
  obtain ⟨i5, ei5⟩ := is_v gr5
  obtain rfl : w5 = (.int i5) := Option.some.inj ei5
  obtain ⟨n, o, h1, h2, h3, _, L, rfl, ⟨rfl, N⟩, hq⟩ := rm0 l s _ hw tables_1 i0 i1 i2 i3 i4 i5 s.heap s.heap.size (Nat.le_refl _) p e ha hc hk s m _ below hf ((Spec.applies_iff_loose hf).mp happ).1 ⟨rfl, State.Warmed39.refl s, rfl⟩ trivial
  refine ⟨n, _, h1, h2, h3, hpost _ _ _ _ _ _ ⟨Cond.after_iff.mpr rfl, Cond.after_iff.mpr (eq_i res_at (Term.int_eval (1)) rfl), trivial⟩ ⟨hq.1, hq.2.1, (hq.2.2.sift fun y hy => Or.inr (N y hy)).mono (by decide) (by decide)⟩⟩
theorem main_1_1 : Claimed_1_1 := comes_1 fun _ _ _ _ _ _ h hF => ⟨h.1, hF⟩
theorem main_1_2 : Claimed_1_2 := comes_1 fun _ _ _ _ _ _ h hF => ⟨h.2.1, hF⟩
end Jvm.Pilot.@@N@@
namespace Jvm.Pilot.@@N@@
open Jvm Jvm.ClassFile Sem Op Lib Jvm.Free Jvm.Stand Jvm.Pilot.@@N@@.Jvm.D
/-! MADE BY PROGRAM (witnessworld.py) out of the Statement's table words and the real class files: 12 classes; the members and pool entries that the words name. The judged class is class 1, her method 1. -/
namespace start1
open Jvm.ClassFile
def u (s : String) : CpInfo := .utf8 (stringToUtf16 s)
/-- a pool by its gaps: so many unusable entries, then the entry; so many at the end -/
def gap : Nat → List CpInfo → List CpInfo
  | 0, r => r
  | n + 1, r => .unusable :: gap n r
def poolList (es : List (Nat × CpInfo)) (last : Nat) : List CpInfo := es.foldr (fun e r => gap e.1 (e.2 :: r)) (gap last [])
def pool (es : List (Nat × CpInfo)) (last : Nat) : Array CpInfo := ⟨poolList es last⟩
def fileOf (pool : Array CpInfo) (this : Nat) (attrs : Array Attribute := #[]) (ms : Array MethodInfo := #[]) (fl : Nat := 33) (sup : Nat := 0) (ifs : Array Nat := #[]) (fds : Array FieldInfo := #[]) : ClassFile where
  minorVersion := 0
  majorVersion := 65
  constantPool := pool
  accessFlags := fl
  thisClass := this
  superClass := sup
  interfaces := ifs
  fields := fds
  methods := ms
  attributes := attrs
def plain (name : String) (sup : Option ClassId) : Class where
  name := name
  kind := .ordinary
  loader := none
  accessFlags := 33
  super := sup
  interfaces := #[]
  cf := none
  fields := #[]
  methods := #[]
  instanceTypes := #[]
  staticTypes := #[]
  resolved := #[]
  callSites := []
  init := .initialized
  statics := none
  mirror := none

def pool0 : Array CpInfo := pool [(5, u "<init>"), (0, u "()V"), (1, .class_ 10), (1, u "java/lang/Object")] 113

def k0c0 : Code := { maxStack := 0, maxLocals := 1, code := object_method_1_code, exceptionTable := #[], attributes := #[] }
def k0m0 : Method := { name := "<init>", desc := "()V", sig := { parameters := [], returnType := none }, accessFlags := 1, code := some k0c0 }
/-- java/lang/Object -/
def k0 : Class := { plain "java/lang/Object" none with
  accessFlags := 33
  interfaces := #[]
  cf := some (fileOf pool0 8 #[] #[{ accessFlags := 1, nameIndex := 5, descriptorIndex := 6, attributes := #[] }] 33 0 #[] #[])
  fields := #[]
  methods := #[k0m0]
  instanceTypes := #[]
  staticTypes := #[]
  resolved := Array.replicate 124 none
  statics := none }

def pool1 : Array CpInfo := pool [(2, .class_ 4), (1, u "java/lang/Object"), (0, u "<init>"), (0, u "()V"), (0, .class_ 8), (0, u "com/example/shuntyard/shuntyard/table/Cards"), (0, .methodref 7 10), (0, .nameAndType 5 11), (0, u "(I)V"), (0, .methodref 7 13), (0, .nameAndType 14 11), (0, u "add"), (0, .methodref 7 16), (0, .nameAndType 17 18), (0, u "removeLast"), (0, u "()I"), (0, .methodref 7 20), (0, .nameAndType 21 22), (0, u "contains"), (0, u "(I)Z"), (0, .class_ 24), (0, u "com/example/shuntyard/shuntyard/table/CardsContainsPinLaw"), (2, u "law"), (0, u "(IIIIII)Z")] 3

def k1m0 : Method := { name := "<init>", desc := "()V", sig := { parameters := [], returnType := none }, accessFlags := 1, code := none }
def k1c1 : Code := { maxStack := 3, maxLocals := 13, code := code, exceptionTable := #[], attributes := #[] }
def k1m1 : Method := { name := "law", desc := "(IIIIII)Z", sig := { parameters := [.int, .int, .int, .int, .int, .int], returnType := some .boolean }, accessFlags := 9, code := some k1c1 }
/-- com/example/shuntyard/shuntyard/table/CardsContainsPinLaw -/
def k1 : Class := { plain "com/example/shuntyard/shuntyard/table/CardsContainsPinLaw" (some 0) with
  accessFlags := 49
  interfaces := #[]
  cf := some (fileOf pool1 23 #[] #[{ accessFlags := 1, nameIndex := 5, descriptorIndex := 6, attributes := #[] }, { accessFlags := 9, nameIndex := 27, descriptorIndex := 28, attributes := #[] }] 49 2 #[] #[])
  fields := #[]
  methods := #[k1m0, k1m1]
  instanceTypes := #[]
  staticTypes := #[]
  resolved := Array.replicate 32 none
  statics := none }

def pool2 : Array CpInfo := pool [(1, .methodref 2 3), (0, .class_ 4), (0, .nameAndType 5 6), (0, u "java/lang/Object"), (0, u "<init>"), (0, u "()V"), (0, .fieldref 8 9), (0, .class_ 10), (0, .nameAndType 11 12), (0, u "com/example/shuntyard/shuntyard/table/Cards"), (0, u "cards"), (0, u "[I"), (0, .fieldref 8 14), (0, .nameAndType 15 16), (0, u "size"), (0, u "I"), (0, .methodref 8 18), (0, .nameAndType 19 20), (0, u "checkIndex"), (0, u "(I)I"), (0, .methodref 8 22), (0, .nameAndType 23 20), (0, u "indexOf"), (0, .methodref 25 26), (0, .class_ 27), (0, .nameAndType 28 29), (0, u "java/lang/Math"), (0, u "max"), (0, u "(II)I"), (0, .methodref 31 32), (0, .class_ 33), (0, .nameAndType 34 35), (0, u "java/util/Arrays"), (0, u "copyOf"), (0, u "([II)[I"), (2, u "add"), (0, u "(I)V"), (44, u "()I"), (4, u "contains"), (0, u "(I)Z"), (3, u "removeLast")] 13

def k2c0 : Code := { maxStack := 2, maxLocals := 2, code := prog_7_method_1_code, exceptionTable := #[], attributes := #[] }
def k2m0 : Method := { name := "<init>", desc := "(I)V", sig := { parameters := [.int], returnType := none }, accessFlags := 1, code := some k2c0 }
def k2c1 : Code := { maxStack := 2, maxLocals := 2, code := prog_7_method_5_code, exceptionTable := #[], attributes := #[] }
def k2m1 : Method := { name := "contains", desc := "(I)Z", sig := { parameters := [.int], returnType := some .boolean }, accessFlags := 1, code := some k2c1 }
def k2c2 : Code := { maxStack := 5, maxLocals := 2, code := prog_7_method_6_code, exceptionTable := #[], attributes := #[] }
def k2m2 : Method := { name := "add", desc := "(I)V", sig := { parameters := [.int], returnType := none }, accessFlags := 1, code := some k2c2 }
def k2c3 : Code := { maxStack := 4, maxLocals := 2, code := prog_7_method_10_code, exceptionTable := #[], attributes := #[] }
def k2m3 : Method := { name := "removeLast", desc := "()I", sig := { parameters := [], returnType := some .int }, accessFlags := 1, code := some k2c3 }
def k2c4 : Code := { maxStack := 2, maxLocals := 3, code := prog_7_method_16_code, exceptionTable := #[], attributes := #[] }
def k2m4 : Method := { name := "indexOf", desc := "(I)I", sig := { parameters := [.int], returnType := some .int }, accessFlags := 2, code := some k2c4 }
def k2c5 : Code := { maxStack := 7, maxLocals := 2, code := prog_7_method_17_code, exceptionTable := #[], attributes := #[] }
def k2m5 : Method := { name := "checkIndex", desc := "(I)I", sig := { parameters := [.int], returnType := some .int }, accessFlags := 2, code := some k2c5 }
/-- com/example/shuntyard/shuntyard/table/Cards -/
def k2 : Class := { plain "com/example/shuntyard/shuntyard/table/Cards" (some 0) with
  accessFlags := 49
  interfaces := #[]
  cf := some (fileOf pool2 8 #[] #[{ accessFlags := 1, nameIndex := 5, descriptorIndex := 39, attributes := #[] }, { accessFlags := 1, nameIndex := 89, descriptorIndex := 90, attributes := #[] }, { accessFlags := 1, nameIndex := 38, descriptorIndex := 39, attributes := #[] }, { accessFlags := 1, nameIndex := 94, descriptorIndex := 84, attributes := #[] }, { accessFlags := 2, nameIndex := 23, descriptorIndex := 20, attributes := #[] }, { accessFlags := 2, nameIndex := 19, descriptorIndex := 20, attributes := #[] }] 49 2 #[] #[{ accessFlags := 2, nameIndex := 11, descriptorIndex := 12, attributes := #[] }, { accessFlags := 2, nameIndex := 15, descriptorIndex := 16, attributes := #[] }])
  fields := #[{ name := "cards", type := (.array .int), accessFlags := 2, slot := 0, constantValue := 0 }, { name := "size", type := .int, accessFlags := 2, slot := 1, constantValue := 0 }]
  methods := #[k2m0, k2m1, k2m2, k2m3, k2m4, k2m5]
  instanceTypes := #[(.array .int), .int]
  staticTypes := #[]
  resolved := Array.replicate 108 none
  statics := none }

def pool3 : Array CpInfo := pool [(1, .class_ 2), (0, u "java/lang/Math"), (1, .class_ 6), (1, u "java/lang/Object"), (0, u "<init>"), (0, u "()V"), (89, .class_ 100), (1, u "java/lang/Math$RandomNumberGeneratorHolder"), (71, u "negativeZeroFloatBits"), (0, u "J"), (2, u "negativeZeroDoubleBits"), (21, u "max"), (2, u "min"), (43, u "$assertionsDisabled"), (0, u "Z"), (88, u "(II)I"), (2, u "twoToTheDoubleScaleDown"), (0, u "D"), (4, u "twoToTheDoubleScaleUp"), (9, u "E"), (3, u "PI"), (2, u "TAU"), (2, u "DEGREES_TO_RADIANS"), (0, u "RADIANS_TO_DEGREES")] 94

def k3m0 : Method := { name := "<init>", desc := "()V", sig := { parameters := [], returnType := none }, accessFlags := 2, code := none }
def k3c1 : Code := { maxStack := 2, maxLocals := 2, code := jdk_29_method_65_code, exceptionTable := #[], attributes := #[] }
def k3m1 : Method := { name := "max", desc := "(II)I", sig := { parameters := [.int, .int], returnType := some .int }, accessFlags := 9, code := some k3c1 }
def k3c2 : Code := { maxStack := 2, maxLocals := 2, code := jdk_29_method_69_code, exceptionTable := #[], attributes := #[] }
def k3m2 : Method := { name := "min", desc := "(II)I", sig := { parameters := [.int, .int], returnType := some .int }, accessFlags := 9, code := some k3c2 }
/-- java/lang/Math -/
def k3 : Class := { plain "java/lang/Math" (some 0) with
  accessFlags := 49
  interfaces := #[]
  cf := some (fileOf pool3 1 #[.nestMembers #[98]] #[{ accessFlags := 2, nameIndex := 7, descriptorIndex := 8, attributes := #[] }, { accessFlags := 9, nameIndex := 198, descriptorIndex := 335, attributes := #[] }, { accessFlags := 9, nameIndex := 201, descriptorIndex := 335, attributes := #[] }] 49 4 #[] #[{ accessFlags := 25, nameIndex := 354, descriptorIndex := 339, attributes := #[] }, { accessFlags := 25, nameIndex := 358, descriptorIndex := 339, attributes := #[] }, { accessFlags := 25, nameIndex := 361, descriptorIndex := 339, attributes := #[] }, { accessFlags := 26, nameIndex := 364, descriptorIndex := 339, attributes := #[] }, { accessFlags := 26, nameIndex := 365, descriptorIndex := 339, attributes := #[] }, { accessFlags := 26, nameIndex := 172, descriptorIndex := 173, attributes := #[] }, { accessFlags := 26, nameIndex := 176, descriptorIndex := 173, attributes := #[] }, { accessFlags := 8, nameIndex := 344, descriptorIndex := 339, attributes := #[] }, { accessFlags := 8, nameIndex := 338, descriptorIndex := 339, attributes := #[] }, { accessFlags := 4120, nameIndex := 245, descriptorIndex := 246, attributes := #[] }])
  fields := #[{ name := "E", type := .double, accessFlags := 25, slot := 0, constantValue := 0 }, { name := "PI", type := .double, accessFlags := 25, slot := 1, constantValue := 0 }, { name := "TAU", type := .double, accessFlags := 25, slot := 2, constantValue := 0 }, { name := "DEGREES_TO_RADIANS", type := .double, accessFlags := 26, slot := 3, constantValue := 0 }, { name := "RADIANS_TO_DEGREES", type := .double, accessFlags := 26, slot := 4, constantValue := 0 }, { name := "negativeZeroFloatBits", type := .long, accessFlags := 26, slot := 5, constantValue := 0 }, { name := "negativeZeroDoubleBits", type := .long, accessFlags := 26, slot := 6, constantValue := 0 }, { name := "twoToTheDoubleScaleUp", type := .double, accessFlags := 8, slot := 7, constantValue := 0 }, { name := "twoToTheDoubleScaleDown", type := .double, accessFlags := 8, slot := 8, constantValue := 0 }, { name := "$assertionsDisabled", type := .boolean, accessFlags := 4120, slot := 9, constantValue := 0 }]
  methods := #[k3m0, k3m1, k3m2]
  instanceTypes := #[]
  staticTypes := #[.double, .double, .double, .double, .double, .long, .long, .double, .double, .boolean]
  resolved := Array.replicate 460 none
  statics := none }

def pool4 : Array CpInfo := pool [(2, .class_ 4), (1, u "java/lang/Object"), (0, u "<init>"), (0, u "()V"), (7, .class_ 16), (1, u "java/util/Arrays"), (57, .class_ 76), (1, u "java/util/Arrays$NaturalOrder"), (36, .class_ 115), (1, u "java/util/Arrays$LegacyMergeSort"), (1, u "Z"), (32, .methodref 151 152), (0, .class_ 153), (0, .nameAndType 154 155), (0, u "java/lang/System"), (0, u "arraycopy"), (0, u "(Ljava/lang/Object;ILjava/lang/Object;II)V"), (146, u "copyOf"), (1, .methodref 305 306), (0, .class_ 307), (0, .nameAndType 308 309), (0, u "java/lang/Math"), (0, u "min"), (0, u "(II)I"), (65, .class_ 376), (0, u "java/util/Arrays$ArrayList"), (68, u "$assertionsDisabled"), (269, u "MIN_ARRAY_SORT_GRAN"), (0, u "I"), (2, u "INSERTIONSORT_THRESHOLD"), (151, u "([II)[I"), (103, .class_ 976), (0, u "java/util/Arrays$ArrayItr")] 52

def k4m0 : Method := { name := "<init>", desc := "()V", sig := { parameters := [], returnType := none }, accessFlags := 2, code := none }
def k4c1 : Code := { maxStack := 6, maxLocals := 3, code := jdk_65_method_123_code, exceptionTable := #[], attributes := #[] }
def k4m1 : Method := { name := "copyOf", desc := "([II)[I", sig := { parameters := [(.array .int), .int], returnType := some (.array .int) }, accessFlags := 9, code := some k4c1 }
/-- java/util/Arrays -/
def k4 : Class := { plain "java/util/Arrays" (some 0) with
  accessFlags := 49
  interfaces := #[]
  cf := some (fileOf pool4 14 #[.nestMembers #[975, 375, 113, 74]] #[{ accessFlags := 2, nameIndex := 5, descriptorIndex := 6, attributes := #[] }, { accessFlags := 9, nameIndex := 302, descriptorIndex := 871, attributes := #[] }] 49 2 #[] #[{ accessFlags := 26, nameIndex := 715, descriptorIndex := 716, attributes := #[] }, { accessFlags := 26, nameIndex := 719, descriptorIndex := 716, attributes := #[] }, { accessFlags := 4120, nameIndex := 445, descriptorIndex := 117, attributes := #[] }])
  fields := #[{ name := "MIN_ARRAY_SORT_GRAN", type := .int, accessFlags := 26, slot := 0, constantValue := 0 }, { name := "INSERTIONSORT_THRESHOLD", type := .int, accessFlags := 26, slot := 1, constantValue := 0 }, { name := "$assertionsDisabled", type := .boolean, accessFlags := 4120, slot := 2, constantValue := 0 }]
  methods := #[k4m0, k4m1]
  instanceTypes := #[]
  staticTypes := #[.int, .int, .boolean]
  resolved := Array.replicate 1029 none
  statics := none }

def pool5 : Array CpInfo := pool [(2, .class_ 4), (1, u "java/lang/Object"), (0, u "<init>"), (0, u "()V"), (1, .class_ 10), (1, u "java/lang/System"), (0, u "allowSecurityManager"), (0, u "I"), (16, u "cons"), (0, u "Ljava/io/Console;"), (77, .class_ 110), (1, u "java/lang/System$CallersHolder"), (43, u "initialErrStream"), (0, u "Ljava/io/PrintStream;"), (19, u "security"), (0, u "Ljava/lang/SecurityManager;"), (31, .class_ 209), (0, u "java/lang/System$1"), (7, u "props"), (0, u "Ljava/util/Properties;"), (2, u "lineSeparator"), (0, u "Ljava/lang/String;"), (96, .class_ 321), (1, u "java/lang/System$LoggerFinder"), (5, .class_ 328), (0, u "java/lang/System$Logger"), (67, u "err"), (2, u "out"), (91, u "notSupportedJnuEncoding"), (15, u "in"), (17, u "initialIn"), (0, u "Ljava/io/InputStream;"), (35, u "bootLayer"), (0, u "Ljava/lang/ModuleLayer;"), (99, .class_ 664), (0, u "java/lang/System$2"), (9, u "NEVER"), (2, u "MAYBE"), (49, u "arraycopy"), (0, u "(Ljava/lang/Object;ILjava/lang/Object;II)V"), (72, .class_ 802), (0, u "java/lang/System$Logger$Level")] 31

def k5m0 : Method := { name := "<init>", desc := "()V", sig := { parameters := [], returnType := none }, accessFlags := 2, code := none }
def k5m1 : Method := { name := "arraycopy", desc := "(Ljava/lang/Object;ILjava/lang/Object;II)V", sig := { parameters := [(.object "java/lang/Object"), .int, (.object "java/lang/Object"), .int, .int], returnType := none }, accessFlags := 265, code := none }
/-- java/lang/System -/
def k5 : Class := { plain "java/lang/System" (some 0) with
  accessFlags := 49
  interfaces := #[]
  cf := some (fileOf pool5 8 #[.nestMembers #[319, 327, 801, 108, 663, 208]] #[{ accessFlags := 2, nameIndex := 5, descriptorIndex := 6, attributes := #[] }, { accessFlags := 265, nameIndex := 727, descriptorIndex := 728, attributes := #[] }] 49 2 #[] #[{ accessFlags := 25, nameIndex := 507, descriptorIndex := 526, attributes := #[] }, { accessFlags := 25, nameIndex := 399, descriptorIndex := 155, attributes := #[] }, { accessFlags := 25, nameIndex := 396, descriptorIndex := 155, attributes := #[] }, { accessFlags := 10, nameIndex := 525, descriptorIndex := 526, attributes := #[] }, { accessFlags := 26, nameIndex := 674, descriptorIndex := 12, attributes := #[] }, { accessFlags := 26, nameIndex := 677, descriptorIndex := 12, attributes := #[] }, { accessFlags := 10, nameIndex := 11, descriptorIndex := 12, attributes := #[] }, { accessFlags := 74, nameIndex := 175, descriptorIndex := 176, attributes := #[] }, { accessFlags := 10, nameIndex := 491, descriptorIndex := 222, attributes := #[] }, { accessFlags := 74, nameIndex := 29, descriptorIndex := 30, attributes := #[] }, { accessFlags := 74, nameIndex := 154, descriptorIndex := 155, attributes := #[] }, { accessFlags := 10, nameIndex := 217, descriptorIndex := 218, attributes := #[] }, { accessFlags := 10, nameIndex := 221, descriptorIndex := 222, attributes := #[] }, { accessFlags := 8, nameIndex := 562, descriptorIndex := 563, attributes := #[] }])
  fields := #[{ name := "in", type := (.object "java/io/InputStream"), accessFlags := 25, slot := 0, constantValue := 0 }, { name := "out", type := (.object "java/io/PrintStream"), accessFlags := 25, slot := 1, constantValue := 0 }, { name := "err", type := (.object "java/io/PrintStream"), accessFlags := 25, slot := 2, constantValue := 0 }, { name := "initialIn", type := (.object "java/io/InputStream"), accessFlags := 10, slot := 3, constantValue := 0 }, { name := "NEVER", type := .int, accessFlags := 26, slot := 4, constantValue := 0 }, { name := "MAYBE", type := .int, accessFlags := 26, slot := 5, constantValue := 0 }, { name := "allowSecurityManager", type := .int, accessFlags := 10, slot := 6, constantValue := 0 }, { name := "security", type := (.object "java/lang/SecurityManager"), accessFlags := 74, slot := 7, constantValue := 0 }, { name := "notSupportedJnuEncoding", type := (.object "java/lang/String"), accessFlags := 10, slot := 8, constantValue := 0 }, { name := "cons", type := (.object "java/io/Console"), accessFlags := 74, slot := 9, constantValue := 0 }, { name := "initialErrStream", type := (.object "java/io/PrintStream"), accessFlags := 74, slot := 10, constantValue := 0 }, { name := "props", type := (.object "java/util/Properties"), accessFlags := 10, slot := 11, constantValue := 0 }, { name := "lineSeparator", type := (.object "java/lang/String"), accessFlags := 10, slot := 12, constantValue := 0 }, { name := "bootLayer", type := (.object "java/lang/ModuleLayer"), accessFlags := 8, slot := 13, constantValue := 0 }]
  methods := #[k5m0, k5m1]
  instanceTypes := #[]
  staticTypes := #[(.object "java/io/InputStream"), (.object "java/io/PrintStream"), (.object "java/io/PrintStream"), (.object "java/io/InputStream"), .int, .int, .int, (.object "java/lang/SecurityManager"), (.object "java/lang/String"), (.object "java/io/Console"), (.object "java/io/PrintStream"), (.object "java/util/Properties"), (.object "java/lang/String"), (.object "java/lang/ModuleLayer")]
  resolved := Array.replicate 834 none
  statics := none }

def pool6 : Array CpInfo := pool [(1, u "java/lang/Cloneable"), (0, .class_ 1), (0, u "java/lang/Object"), (0, .class_ 3)] 3

/-- java/lang/Cloneable -/
def k6 : Class := { plain "java/lang/Cloneable" (some 0) with
  accessFlags := 1537
  interfaces := #[]
  cf := some (fileOf pool6 2 #[] #[] 1537 4 #[] #[])
  fields := #[]
  methods := #[]
  instanceTypes := #[]
  staticTypes := #[]
  resolved := Array.replicate 8 none
  statics := none }

def pool7 : Array CpInfo := pool [(1, u "java/io/Serializable"), (0, .class_ 1), (0, u "java/lang/Object"), (0, .class_ 3)] 3

/-- java/io/Serializable -/
def k7 : Class := { plain "java/io/Serializable" (some 0) with
  accessFlags := 1537
  interfaces := #[]
  cf := some (fileOf pool7 2 #[] #[] 1537 4 #[] #[])
  fields := #[]
  methods := #[]
  instanceTypes := #[]
  staticTypes := #[]
  resolved := Array.replicate 8 none
  statics := none }

/-- the primitive byte -/
def k8 : Class := { plain "byte" none with kind := .primitive 'B', accessFlags := 0x411 }
/-- [B -/
def k9 : Class := { plain "[B" (some 0) with kind := .array 8 .byte, interfaces := #[6, 7], accessFlags := 1041 }

/-- the primitive int -/
def k10 : Class := { plain "int" none with kind := .primitive 'I', accessFlags := 0x411 }
/-- [I -/
def k11 : Class := { plain "[I" (some 0) with kind := .array 10 .int, interfaces := #[6, 7], accessFlags := 1041 }

def heap : Heap := #[]
def classes : Array Class := #[k0, k1, k2, k3, k4, k5, k6, k7, k8, k9, k10, k11]
def interned : List (Array UInt16 × Addr) := []
def slotsUsed : Nat := 0
def theMethod : MethodId := ⟨1, 1⟩
def args0 : Array Value := #[.int 46, .int 1, .int 2, .int 3, .int 4, .int 5]
def aboutOver (below : List Frame) : State where
  vm := { classes := classes, interned := interned.toArray }
  heap := heap
  slotsUsed := slotsUsed
  threads := #[{ frames := .invoking theMethod args0 :: below }]
def below0 : List Frame := [.native { method := ⟨0, 0⟩, args := #[] }]
def about1 : State := aboutOver below0
def p0 : Program := .bare "" "" ""
def e0 : Env := launch0.env 0 0 0
theorem w_frames : about1.frames = Frame.invoking theMethod args0 :: below0 := rfl
set_option maxRecDepth 65536 in
theorem w_args : argsFit about1.vm theMethod args0 = true := by decide +kernel
set_option maxRecDepth 65536 in
theorem w_heap : heapFits about1 = true := by decide +kernel
set_option maxRecDepth 65536 in
theorem w_runnable : about1.curStatus? = some .runnable := by decide +kernel
set_option maxRecDepth 65536 in
theorem w_alone : about1.alone = true := by decide +kernel
set_option maxRecDepth 65536 in
theorem w_named : about1.methodNamed? x = some theMethod := by decide +kernel
set_option maxRecDepth 65536 in
theorem w_hears : about1.hears theMethod below0 = true := by decide +kernel
set_option maxRecDepth 65536 in
theorem w_ripe : about1.ripe theMethod args0 below0 = true := by decide +kernel
theorem w_running : about1.status = .running := rfl
set_option maxRecDepth 65536 in
theorem w_room : about1.hasRoom e0.platform room_1 = true :=
  launch0.hasRoom_least _ room_1 (by decide +kernel) (by decide +kernel) (by decide +kernel) (by decide +kernel) (by decide +kernel) (by decide +kernel)
theorem allAtoms_all (ts : List Jvm.Cond) (a : Array Jvm.Value) (st : Jvm.State) : (allAtoms ts).before a st = ts.all (fun c => c.before a st) := by
  induction ts with
  | nil => rfl
  | cons c t ih =>
    show (Jvm.Cond.and c (allAtoms t)).before a st = _
    rw [Jvm.Cond.before_and, ih, List.all_cons]
def words1 : List Jvm.Cond := Jvm.Cond.code x code maxLocals ret :: tables_1
/-- a 'code' word, met by the world's own term for the bytes: nothing is compared byte by byte -/
theorem code_word {y : MethodName} {bytes : ByteArray} {mx : Nat} {rt : Option FieldType} {a : Array Value} {s : State} {m : MethodId} {meth : Method} {c : Code} (h1 : s.methodNamed? y = some m) (h2 : s.vm.method? m = some meth) (h3 : meth.code = some c) (h4 : c.code = bytes)
    (h5 : (c.maxLocals == mx && c.exceptionTable.isEmpty && decide (c.maxStack ≤ mostOperands) && decide (meth.sig.returnType = rt) && !meth.locks && decide (parseMethodDescriptor y.desc = some meth.sig)) = true) : (Jvm.Cond.code y bytes mx rt).before a s = true := by
  simp only [Bool.and_eq_true, beq_iff_eq, Bool.not_eq_true', decide_eq_true_eq] at h5
  obtain ⟨⟨⟨⟨⟨g1, g2⟩, g3⟩, g4⟩, g5⟩, g6⟩ := h5
  simp [Cond.before, Cond.holds, Cond.value, h1, h2, h3, h4, g1, g2, g3, g4, g5, g6]
def isCode : Jvm.Cond → Bool
  | .code _ _ _ _ => true
  | _ => false
theorem all_split {L : List Jvm.Cond} {P : Jvm.Cond → Bool} (h1 : L.all (fun c => isCode c || P c) = true) (h2 : ∀ c ∈ L.filter isCode, P c = true) : L.all P = true := by
  refine List.all_eq_true.mpr fun c hc => ?_
  have h := List.all_eq_true.mp h1 c hc
  rcases Bool.eq_false_or_eq_true (isCode c) with hi | hi
  · exact h2 c (List.mem_filter.mpr ⟨hc, hi⟩)
  · simpa [hi] using h
set_option maxRecDepth 65536 in
theorem w_c0 : (Jvm.Cond.code x code maxLocals ret).before args0 about1 = true := code_word (m := ⟨1, 1⟩) (meth := k1m1) (c := k1c1) (by decide +kernel) rfl rfl rfl (by decide +kernel)
set_option maxRecDepth 65536 in
theorem w_c1 : (Jvm.Cond.code ({ cls := "com/example/shuntyard/shuntyard/table/Cards", name := "<init>", desc := "(I)V" } : Jvm.MethodName) prog_7_method_1_code (2 : Nat) (Option.none : Option Jvm.ClassFile.FieldType)).before args0 about1 = true := code_word (m := ⟨2, 0⟩) (meth := k2m0) (c := k2c0) (by decide +kernel) rfl rfl rfl (by decide +kernel)
set_option maxRecDepth 65536 in
theorem w_c2 : (Jvm.Cond.code ({ cls := "java/lang/Object", name := "<init>", desc := "()V" } : Jvm.MethodName) object_method_1_code (1 : Nat) (Option.none : Option Jvm.ClassFile.FieldType)).before args0 about1 = true := code_word (m := ⟨0, 0⟩) (meth := k0m0) (c := k0c0) (by decide +kernel) rfl rfl rfl (by decide +kernel)
set_option maxRecDepth 65536 in
theorem w_c3 : (Jvm.Cond.code ({ cls := "com/example/shuntyard/shuntyard/table/Cards", name := "contains", desc := "(I)Z" } : Jvm.MethodName) prog_7_method_5_code (2 : Nat) (Option.some Jvm.ClassFile.FieldType.boolean)).before args0 about1 = true := code_word (m := ⟨2, 1⟩) (meth := k2m1) (c := k2c1) (by decide +kernel) rfl rfl rfl (by decide +kernel)
set_option maxRecDepth 65536 in
theorem w_c4 : (Jvm.Cond.code ({ cls := "com/example/shuntyard/shuntyard/table/Cards", name := "indexOf", desc := "(I)I" } : Jvm.MethodName) prog_7_method_16_code (3 : Nat) (Option.some Jvm.ClassFile.FieldType.int)).before args0 about1 = true := code_word (m := ⟨2, 4⟩) (meth := k2m4) (c := k2c4) (by decide +kernel) rfl rfl rfl (by decide +kernel)
set_option maxRecDepth 65536 in
theorem w_c5 : (Jvm.Cond.code ({ cls := "com/example/shuntyard/shuntyard/table/Cards", name := "add", desc := "(I)V" } : Jvm.MethodName) prog_7_method_6_code (2 : Nat) (Option.none : Option Jvm.ClassFile.FieldType)).before args0 about1 = true := code_word (m := ⟨2, 2⟩) (meth := k2m2) (c := k2c2) (by decide +kernel) rfl rfl rfl (by decide +kernel)
set_option maxRecDepth 65536 in
theorem w_c6 : (Jvm.Cond.code ({ cls := "java/lang/Math", name := "max", desc := "(II)I" } : Jvm.MethodName) jdk_29_method_65_code (2 : Nat) (Option.some Jvm.ClassFile.FieldType.int)).before args0 about1 = true := code_word (m := ⟨3, 1⟩) (meth := k3m1) (c := k3c1) (by decide +kernel) rfl rfl rfl (by decide +kernel)
set_option maxRecDepth 65536 in
theorem w_c7 : (Jvm.Cond.code ({ cls := "java/util/Arrays", name := "copyOf", desc := "([II)[I" } : Jvm.MethodName) jdk_65_method_123_code (3 : Nat) (Option.some (Jvm.ClassFile.FieldType.array Jvm.ClassFile.FieldType.int))).before args0 about1 = true := code_word (m := ⟨4, 1⟩) (meth := k4m1) (c := k4c1) (by decide +kernel) rfl rfl rfl (by decide +kernel)
set_option maxRecDepth 65536 in
theorem w_c8 : (Jvm.Cond.code ({ cls := "java/lang/Math", name := "min", desc := "(II)I" } : Jvm.MethodName) jdk_29_method_69_code (2 : Nat) (Option.some Jvm.ClassFile.FieldType.int)).before args0 about1 = true := code_word (m := ⟨3, 2⟩) (meth := k3m2) (c := k3c2) (by decide +kernel) rfl rfl rfl (by decide +kernel)
set_option maxRecDepth 65536 in
theorem w_c9 : (Jvm.Cond.code ({ cls := "com/example/shuntyard/shuntyard/table/Cards", name := "removeLast", desc := "()I" } : Jvm.MethodName) prog_7_method_10_code (2 : Nat) (Option.some Jvm.ClassFile.FieldType.int)).before args0 about1 = true := code_word (m := ⟨2, 3⟩) (meth := k2m3) (c := k2c3) (by decide +kernel) rfl rfl rfl (by decide +kernel)
set_option maxRecDepth 65536 in
theorem w_c10 : (Jvm.Cond.code ({ cls := "com/example/shuntyard/shuntyard/table/Cards", name := "checkIndex", desc := "(I)I" } : Jvm.MethodName) prog_7_method_17_code (2 : Nat) (Option.some Jvm.ClassFile.FieldType.int)).before args0 about1 = true := code_word (m := ⟨2, 5⟩) (meth := k2m5) (c := k2c5) (by decide +kernel) rfl rfl rfl (by decide +kernel)
def codes1 : List Jvm.Cond := [Jvm.Cond.code x code maxLocals ret, Jvm.Cond.code ({ cls := "com/example/shuntyard/shuntyard/table/Cards", name := "<init>", desc := "(I)V" } : Jvm.MethodName) prog_7_method_1_code (2 : Nat) (Option.none : Option Jvm.ClassFile.FieldType), Jvm.Cond.code ({ cls := "java/lang/Object", name := "<init>", desc := "()V" } : Jvm.MethodName) object_method_1_code (1 : Nat) (Option.none : Option Jvm.ClassFile.FieldType), Jvm.Cond.code ({ cls := "com/example/shuntyard/shuntyard/table/Cards", name := "contains", desc := "(I)Z" } : Jvm.MethodName) prog_7_method_5_code (2 : Nat) (Option.some Jvm.ClassFile.FieldType.boolean), Jvm.Cond.code ({ cls := "com/example/shuntyard/shuntyard/table/Cards", name := "indexOf", desc := "(I)I" } : Jvm.MethodName) prog_7_method_16_code (3 : Nat) (Option.some Jvm.ClassFile.FieldType.int), Jvm.Cond.code ({ cls := "com/example/shuntyard/shuntyard/table/Cards", name := "add", desc := "(I)V" } : Jvm.MethodName) prog_7_method_6_code (2 : Nat) (Option.none : Option Jvm.ClassFile.FieldType), Jvm.Cond.code ({ cls := "java/lang/Math", name := "max", desc := "(II)I" } : Jvm.MethodName) jdk_29_method_65_code (2 : Nat) (Option.some Jvm.ClassFile.FieldType.int), Jvm.Cond.code ({ cls := "java/util/Arrays", name := "copyOf", desc := "([II)[I" } : Jvm.MethodName) jdk_65_method_123_code (3 : Nat) (Option.some (Jvm.ClassFile.FieldType.array Jvm.ClassFile.FieldType.int)), Jvm.Cond.code ({ cls := "java/lang/Math", name := "min", desc := "(II)I" } : Jvm.MethodName) jdk_29_method_69_code (2 : Nat) (Option.some Jvm.ClassFile.FieldType.int), Jvm.Cond.code ({ cls := "com/example/shuntyard/shuntyard/table/Cards", name := "removeLast", desc := "()I" } : Jvm.MethodName) prog_7_method_10_code (2 : Nat) (Option.some Jvm.ClassFile.FieldType.int), Jvm.Cond.code ({ cls := "com/example/shuntyard/shuntyard/table/Cards", name := "checkIndex", desc := "(I)I" } : Jvm.MethodName) prog_7_method_17_code (2 : Nat) (Option.some Jvm.ClassFile.FieldType.int)]
set_option maxRecDepth 65536 in
theorem codes_eq : words1.filter isCode = codes1 := rfl
theorem w_codes : ∀ c ∈ words1.filter isCode, c.before args0 about1 = true := by
  rw [codes_eq]
  intro c hc
  simp only [codes1, List.mem_cons, List.not_mem_nil, or_false] at hc
  rcases hc with rfl | rfl | rfl | rfl | rfl | rfl | rfl | rfl | rfl | rfl | rfl
  · exact w_c0
  · exact w_c1
  · exact w_c2
  · exact w_c3
  · exact w_c4
  · exact w_c5
  · exact w_c6
  · exact w_c7
  · exact w_c8
  · exact w_c9
  · exact w_c10
set_option maxRecDepth 65536 in
theorem w_t1 : (words1.take 24).all (fun c => isCode c || c.before args0 about1) = true := by decide +kernel
set_option maxRecDepth 65536 in
theorem w_t2 : ((words1.drop 24).take 24).all (fun c => isCode c || c.before args0 about1) = true := by decide +kernel
set_option maxRecDepth 65536 in
theorem w_t3 : ((words1.drop 24).drop 24).all (fun c => isCode c || c.before args0 about1) = true := by decide +kernel
theorem w_tables : (allAtoms (Jvm.Cond.code x code maxLocals ret :: tables_1)).before args0 about1 = true := by
  rw [allAtoms_all]
  show words1.all (fun c => c.before args0 about1) = true
  refine all_split ?_ w_codes
  rw [← List.take_append_drop 24 words1, List.all_append, w_t1, ← List.take_append_drop 24 (words1.drop 24), List.all_append, w_t2, w_t3]
  rfl
set_option maxRecDepth 65536 in
theorem w_case : (Jvm.Cond.and given_1 narrow_1).before args0 about1 = true := by decide +kernel
theorem w_applies : (headSpec (Jvm.Cond.code x code maxLocals ret :: tables_1) room_1).applies x e0.platform about1 = true :=
  (Spec.applies_iff w_frames).mpr ⟨w_running, w_runnable, w_alone, w_named, w_hears, w_ripe, w_room, w_tables⟩
theorem atStart : AtStart classFile x code maxLocals ret World_1 tables_1 room_1 Calls_1 rest_1 Pre_1 launch0 p0 e0 about1 theMethod args0 below0 :=
  ⟨lists_1, trivial, launch0.admits_env _ _ _, launch0.least_env, fairChoices_fair.cas, fairChoices_fair.clock, w_frames, w_args, w_heap, w_applies, trivial, trivial, w_case⟩
end start1
theorem witness_1 : WitnessClaimed_1 := ⟨start1.p0, start1.e0, start1.about1, start1.theMethod, start1.args0, start1.below0, start1.atStart⟩
end Jvm.Pilot.@@N@@
