import JvmDerived
import JvmDerived.Pilot.@@N@@Statement
import JvmDerived.Pilot.@@N@@Code
set_option linter.unusedVariables false
set_option linter.unusedSimpArgs false
namespace Jvm.RoadKit
open Sem ClassFile Op Lib Jvm.Stand Jvm.Free Jvm.LawKit
section New
variable {p : Program} {l : Launch} {e : Env} {R : Room} {s : State} {m : MethodId} {args : Array Value} {below : List Frame} {meth : Method} {c : Code} {T : State} {locs : List Loc} {cells slots : Nat}
theorem retI (X : Stand p l e R s m args below meth c T locs cells slots) (hx : p.tables.exec = Jvm.exec) {pc : Nat} {Ls : Array Slot} {z : Int32} {rest : List Value} (hret : meth.sig.returnType = some .int) (hd : decode c.code pc = .ok (.ireturn, 1)) {fs : List Frame}
    (hl : ∀ (f : JFrame) (acts : List Action), f.method = m → f.locked = none → f.entered = [] → (doReturn e (T.setTop f) acts (some (.int z))).1 = T.setFrames fs) : Steps p.tables e below (T.setTop (mkF m pc Ls (.int z :: rest))) (T.setFrames fs) := by
  have hm' : T.vm.method? m = some meth := X.method'
  have hn : narrow .int (.int z) = .int z := rfl
  show Steps p.tables e below (T.setTop { method := m, pc := pc, locals := Ls, stack := _ :: rest, locked := none }) _
  jvm_step X.here [X.here.top, hx, hd, hm', hret, hn]
  first | (intro acts; rw [hl _ acts rfl rfl rfl]) | rw [hl _ _ rfl rfl rfl]
  exact Steps.refl _
end New
end Jvm.RoadKit
namespace Jvm.Pilot.@@N@@
open Jvm Jvm.ClassFile Sem Op Lib Jvm.Free Jvm.Stand Jvm.LawKit Jvm.RoadKit Bundle Jvm.Pilot.@@N@@.Jvm.D
def own_irem (x y : Int32) : Int32 := x - (x / y) * y
def own_lrem (x y : Int64) : Int64 := x - (x / y) * y
def own_Q (r : Option Value) (h0 : Heap) (n0 : Nat) (v : Option Value) (h : Heap) (L : List Loc) : Prop := v = r ∧ Fr n0 L ∧ h = h0
theorem own_fint {args : Array Value} {first s : State} {o : Option Outcome} {idx : List Nat} {u : Term} {k : Int32} (h : (Cond.eq u (.int k)).value args first o s idx = some true) : u.eval args first o idx s = some (.int k) := by
  simp only [Cond.value, Term.eval] at h
  cases ht : u.eval args first o idx s with
  | none => simp [ht] at h
  | some x => cases x <;> simp [ht] at h ⊢; exact h
/-! plain arithmetic of the table: where a key is looked for, what the key and the bit are -/
def own_hash (x : Int64) : Int32 := (((x * (-7046029254386353131 : Int64)).toUInt64 >>> ((54 : Int32) &&& 0x3f).toInt64.toUInt64).toInt64).toInt32
def own_next (i : Int32) : Int32 := (i + (1 : Int32)) &&& ((1024 : Int32) - (1 : Int32))
theorem own_hash_rng (x : Int64) : 0 ≤ (own_hash x).toInt ∧ (own_hash x).toInt < 1024 := by
  unfold own_hash
  generalize x * (-7046029254386353131 : Int64) = y
  have h1 := c_lushr y 54 54 (by decide) (by decide)
  generalize ((y.toUInt64 >>> ((54 : Int32) &&& 0x3f).toInt64.toUInt64).toInt64) = w at h1 ⊢
  have h2 := c_l2i w
  have h3 := rng32 w.toInt32
  have h4 := rng64 y
  have e : ((2 ^ 54 : Nat) : Int) = 18014398509481984 := by decide
  rw [e] at h1
  omega
theorem own_next_val (i : Int32) (h : 0 ≤ i.toInt ∧ i.toInt < 1024) : (own_next i).toInt = (i.toInt + 1) % 1024 := by
  unfold own_next
  have h1 := c_mask (i + 1) ((1024 : Int32) - (1 : Int32)) 10 (by decide) (by decide)
  have h2 := c_iadd i 1
  have h3 := rng32 (i + 1)
  have e1 : (1 : Int32).toInt = 1 := by decide
  have e : ((2 ^ 10 : Nat) : Int) = 1024 := by decide
  rw [e] at h1
  rw [e1] at h2
  omega
theorem own_next_rng (i : Int32) (h : 0 ≤ i.toInt ∧ i.toInt < 1024) : 0 ≤ (own_next i).toInt ∧ (own_next i).toInt < 1024 := by
  have := own_next_val i h
  omega
theorem own_nat {i : Int32} (h : 0 ≤ i.toInt ∧ i.toInt < 1024) : i.toNatClampNeg < 1024 := by
  show i.toInt.toNat < 1024
  omega
theorem own_nat_ne {i j : Int32} (hi : 0 ≤ i.toInt) (hj : 0 ≤ j.toInt) (h : i.toInt ≠ j.toInt) : i.toNatClampNeg ≠ j.toNatClampNeg := by
  show i.toInt.toNat ≠ j.toInt.toNat
  omega
theorem own_in {i : Int32} {c : Cell} (h : 0 ≤ i.toInt ∧ i.toInt < 1024) (s : c.slots.size = 1024) : ¬ (i < 0 ∨ c.slots.size ≤ i.toNatClampNeg) := by
  have h1 := own_nat h
  have e : (0 : Int32).toInt = 0 := by decide
  rw [Int32.lt_iff_toInt_lt, s]
  omega
/-! an array of 1024 longs as a function -/
def own_upd (f : Nat → Int64) (i : Nat) (v : Int64) : Nat → Int64 := fun k => if k = i then v else f k
theorem own_upd_at (f : Nat → Int64) (i : Nat) (v : Int64) : own_upd f i v i = v := by simp [own_upd]
theorem own_upd_ne (f : Nat → Int64) {i k : Nat} (v : Int64) (h : k ≠ i) : own_upd f i v k = f k := by simp [own_upd, h]
def own_L (Z : State) (h : Heap) (a : Addr) (f : Nat → Int64) : Prop := ∃ c : Cell, Arr Z h a c .long ∧ c.slots.size = 1024 ∧ ∀ k, k < 1024 → c.slots[k]? = some (.long (f k))
theorem own_set {c : Cell} {f : Nat → Int64} (s : c.slots.size = 1024) (H : ∀ k, k < 1024 → c.slots[k]? = some (.long (f k))) (i : Nat) (v : Int64) : (c.setSlot i (.long v)).slots.size = 1024 ∧ ∀ k, k < 1024 → (c.setSlot i (.long v)).slots[k]? = some (.long (own_upd f i v k)) := by
  refine ⟨by simp [Cell.setSlot, s], fun k hk => ?_⟩
  by_cases q : k = i
  · subst q
    simp [Cell.setSlot, own_upd, s, hk]
  · have q' : i ≠ k := fun z => q z.symm
    simp only [Cell.setSlot, own_upd, q, if_false]
    rw [Array.getElem?_setIfInBounds_ne q']
    exact H k hk
def own_S (Z : State) (h : Heap) (v ka wa : Addr) (f g : Nat → Int64) (n : Int32) : Prop := Exa Z h v "com/example/crackline/crackline/SeenValues" ∧ Fld Z h v "com/example/crackline/crackline/SeenValues" "keys" "[J" (.ref ka) ∧ Fld Z h v "com/example/crackline/crackline/SeenValues" "words" "[J" (.ref wa) ∧ Fld Z h v "com/example/crackline/crackline/SeenValues" "size" "I" (.int n) ∧ own_L Z h ka f ∧ own_L Z h wa g ∧ ka ≠ wa
theorem own_keep1 {h0 h : Heap} {a b c : Addr} (K : Keep h0 h [b]) : Keep h0 h [a, b, c] := ⟨K.1, fun x cl q r => K.2.1 x cl q (fun z => r (by simp [List.mem_singleton.mp z])), K.2.2⟩
def own_QA (Z : State) (a1 w17 w14 : Addr) (h0 : Heap) (n0 : Nat) (r : Int32) (f g : Nat → Int64) (n : Int32) (v : Option Value) (h : Heap) (L : List Loc) : Prop := v = some (.int r) ∧ Fr n0 L ∧ Keep h0 h [w17, w14, a1] ∧ own_S Z h a1 w17 w14 f g n
/-- where slot ends: at the first place or at the next one -/
def own_found (f g : Nat → Int64) (x : Int64) (i : Int32) : Prop :=
  (i = own_hash x ∧ (g (own_hash x).toNatClampNeg = 0 ∨ f (own_hash x).toNatClampNeg = x)) ∨
  (¬ g (own_hash x).toNatClampNeg = 0 ∧ ¬ f (own_hash x).toNatClampNeg = x ∧ i = own_next (own_hash x) ∧ (g (own_next (own_hash x)).toNatClampNeg = 0 ∨ f (own_next (own_hash x)).toNatClampNeg = x))
theorem own_found_rng {f g : Nat → Int64} {x : Int64} {i : Int32} (h : own_found f g x i) : 0 ≤ i.toInt ∧ i.toInt < 1024 := by
  rcases h with ⟨rfl, -⟩ | ⟨-, -, rfl, -⟩
  · exact own_hash_rng x
  · exact own_next_rng _ (own_hash_rng x)
/-! the numbers: the row, the word of 64 days, the place in it -/
theorem own_nonneg32 (x : Int32) : 0 ≤ x.toInt ↔ x.toBitVec.msb = false := by
  rw [BitVec.msb_eq_toInt]
  show 0 ≤ x.toBitVec.toInt ↔ _
  simp
theorem own_add_ok (x y : Int32) (hx : 0 ≤ x.toInt) (hy : 0 ≤ y.toInt) (hs : 0 ≤ (x + y).toInt) : ¬ (((x ^^^ (x + y)) &&& (y ^^^ (x + y))) < (0 : Int32)) := by
  rw [own_nonneg32] at hx hy hs
  have h : 0 ≤ ((x ^^^ (x + y)) &&& (y ^^^ (x + y))).toInt := by
    rw [own_nonneg32]
    show ((x.toBitVec ^^^ (x + y).toBitVec) &&& (y.toBitVec ^^^ (x + y).toBitVec)).msb = false
    rw [BitVec.msb_and, BitVec.msb_xor, BitVec.msb_xor, hx, hy, hs]
    rfl
  rw [Int32.lt_iff_toInt_lt]
  have e : (0 : Int32).toInt = 0 := by decide
  omega
theorem own_neg64 (x : Int64) : x.toInt < 0 ↔ x.toBitVec.msb = true := by
  rw [BitVec.msb_eq_toInt]
  show x.toBitVec.toInt < 0 ↔ _
  simp
theorem own_xor64 (d : Int64) : (lcmpW (d ^^^ ((64 : Int32).toInt64)) (0 : Int64)) < (0 : Int32) ↔ d.toInt < 0 := by
  rw [lw_lt, Int64.lt_iff_toInt_lt, show (0 : Int64).toInt = 0 from by decide, own_neg64, own_neg64]
  show (d.toBitVec ^^^ ((64 : Int32).toInt64).toBitVec).msb = true ↔ _
  have e : ((64 : Int32).toInt64).toBitVec.msb = false := by decide
  rw [BitVec.msb_xor, e]
  simp
/-- floorDiv(d, 64) and floorMod(d, 64) -/
def own_fdiv (d : Int64) : Int64 := if d.toInt < 0 then (if (d / ((64 : Int32).toInt64)) * ((64 : Int32).toInt64) = d then d / ((64 : Int32).toInt64) else d / ((64 : Int32).toInt64) - (1 : Int64)) else d / ((64 : Int32).toInt64)
def own_fmod (d : Int64) : Int64 := if d.toInt < 0 then (if own_lrem d ((64 : Int32).toInt64) = (0 : Int64) then own_lrem d ((64 : Int32).toInt64) else own_lrem d ((64 : Int32).toInt64) + ((64 : Int32).toInt64)) else own_lrem d ((64 : Int32).toInt64)
theorem own_e64 : ((64 : Int32).toInt64).toInt = 64 := by decide
theorem own_fdiv_val (d : Int64) : (own_fdiv d).toInt = d.toInt / 64 := by
  have h1 := c_ldiv d ((64 : Int32).toInt64) 64 own_e64 (by decide)
  have h2 := c_lmul (d / ((64 : Int32).toInt64)) ((64 : Int32).toInt64)
  have h3 := c_lsub (d / ((64 : Int32).toInt64)) 1
  have h4 := rng64 d
  have h5 := rng64 (d / ((64 : Int32).toInt64))
  have h6 := rng64 (d / ((64 : Int32).toInt64) * ((64 : Int32).toInt64))
  have h7 := rng64 (d / ((64 : Int32).toInt64) - 1)
  have e1 : (1 : Int64).toInt = 1 := by decide
  rw [own_e64] at h2
  rw [e1] at h3
  unfold own_fdiv
  split
  · split
    · rename_i q1 q2
      rw [← Int64.toInt_inj] at q2
      omega
    · rename_i q1 q2
      rw [← Int64.toInt_inj] at q2
      omega
  · omega
theorem own_fmod_val (d : Int64) : (own_fmod d).toInt = d.toInt % 64 := by
  have h1 := c_lrem d ((64 : Int32).toInt64) 64 own_e64
  have h2 := c_ladd (own_lrem d ((64 : Int32).toInt64)) ((64 : Int32).toInt64)
  have h4 := rng64 d
  have h5 := rng64 (own_lrem d ((64 : Int32).toInt64))
  have h6 := rng64 (own_lrem d ((64 : Int32).toInt64) + ((64 : Int32).toInt64))
  have e0 : (0 : Int64).toInt = 0 := by decide
  have h1' : (0 ≤ d.toInt → (own_lrem d ((64 : Int32).toInt64)).toInt = d.toInt % 64) ∧ (d.toInt < 0 → (own_lrem d ((64 : Int32).toInt64)).toInt = -((-d.toInt) % 64)) := h1
  rw [own_e64] at h2
  unfold own_fmod
  split
  · split
    · rename_i q1 q2
      rw [← Int64.toInt_inj, e0] at q2
      omega
    · rename_i q1 q2
      rw [← Int64.toInt_inj, e0] at q2
      omega
  · omega
def own_row (s o : Int32) : Int32 := ((s.toInt64) * ((5 : Int32).toInt64)).toInt32 + o
def own_key (row fd : Int32) : Int64 := ((row.toInt64) <<< ((32 : Int32) &&& 0x3f).toInt64) ||| ((fd.toInt64) &&& (4294967295 : Int64))
def own_bit (m : Int32) : Int64 := (1 : Int64) <<< (m &&& 0x3f).toInt64
theorem own_mul_val (s : Int32) (h : 0 ≤ s.toInt ∧ s.toInt < 429496729) : ((s.toInt64) * ((5 : Int32).toInt64)).toInt = 5 * s.toInt ∧ (((s.toInt64) * ((5 : Int32).toInt64)).toInt32).toInt = 5 * s.toInt := by
  have h1 := c_lmul s.toInt64 ((5 : Int32).toInt64)
  have h2 := c_i2l s
  have e5 : ((5 : Int32).toInt64).toInt = 5 := by decide
  have h3 := rng64 ((s.toInt64) * ((5 : Int32).toInt64))
  have h4 := c_l2i ((s.toInt64) * ((5 : Int32).toInt64))
  have h5 := rng32 (((s.toInt64) * ((5 : Int32).toInt64)).toInt32)
  rw [h2, e5] at h1
  omega
theorem own_row_val (s o : Int32) (h : 0 ≤ s.toInt ∧ s.toInt < 429496729) (ho : 0 ≤ o.toInt ∧ o.toInt < 5) : (own_row s o).toInt = 5 * s.toInt + o.toInt := by
  unfold own_row
  have h1 := (own_mul_val s h).2
  have h2 := c_iadd (((s.toInt64) * ((5 : Int32).toInt64)).toInt32) o
  have h3 := rng32 (((s.toInt64) * ((5 : Int32).toInt64)).toInt32 + o)
  omega
theorem own_key_inj {r r' d d' : Int32} (h : own_key r d = own_key r' d') : r = r' ∧ d = d' := by
  have hb : ∀ i, (own_key r d).toBitVec.getLsbD i = (own_key r' d').toBitVec.getLsbD i := fun i => by rw [h]
  have e32 : ((32 : Int32) &&& 0x3f).toInt64.toBitVec.smod 64 = 32#64 := by decide
  have key : ∀ (a b : Int32) (i : Nat), (own_key a b).toBitVec.getLsbD i = (if i < 32 then b.toBitVec.getLsbD i else (decide (i < 64) && (a.toBitVec.signExtend 64).getLsbD (i - 32))) := fun a b i => by
    show (((a.toInt64).toBitVec <<< (((32 : Int32) &&& 0x3f).toInt64.toBitVec.smod 64)) ||| ((b.toInt64).toBitVec &&& (4294967295#64))).getLsbD i = _
    rw [e32, BitVec.getLsbD_or, BitVec.shiftLeft_eq', BitVec.getLsbD_shiftLeft, BitVec.getLsbD_and]
    have em : (4294967295#64).getLsbD i = decide (i < 32) := by
      have : (4294967295#64) = BitVec.ofNat 64 (2 ^ 32 - 1) := by decide
      rw [this, BitVec.getLsbD_ofNat, Nat.testBit_two_pow_sub_one]
      by_cases q : i < 32
      · simp [q]; omega
      · simp [q]
    rw [em]
    show (decide (i < 64) && !decide (i < 32) && (a.toBitVec.signExtend 64).getLsbD (i - 32) || (b.toBitVec.signExtend 64).getLsbD i && decide (i < 32)) = _
    by_cases q : i < 32
    · have q64 : i < 64 := by omega
      have hb : (b.toBitVec.signExtend 64).getLsbD i = b.toBitVec.getLsbD i := by
        rw [BitVec.getLsbD_signExtend, if_pos q]
        simp only [q64, decide_true, Bool.true_and]
      rw [hb, if_pos q]
      simp only [q, q64, decide_true, Bool.not_true, Bool.and_false, Bool.false_and, Bool.false_or, Bool.and_true]
    · simp [q]
  refine ⟨Int32.toBitVec_inj.mp (BitVec.eq_of_getLsbD_eq fun i hi => ?_), Int32.toBitVec_inj.mp (BitVec.eq_of_getLsbD_eq fun i hi => ?_)⟩
  · have q := hb (i + 32)
    rw [key, key, if_neg (by omega), if_neg (by omega), BitVec.getLsbD_signExtend, BitVec.getLsbD_signExtend] at q
    have a1 : i + 32 < 64 := by omega
    have a2 : i < 64 := by omega
    simpa [a1, a2, hi] using q
  · have q := hb i
    rw [key, key, if_pos hi, if_pos hi] at q
    exact q
theorem own_bit_tab : ∀ a b : Fin 64, ((own_bit (Int32.ofNat a.val) &&& own_bit (Int32.ofNat b.val)) = 0 ↔ a ≠ b) ∧ own_bit (Int32.ofNat a.val) ≠ 0 := by decide +kernel
theorem own_of_rng (m : Int32) (h : 0 ≤ m.toInt ∧ m.toInt < 64) : ∃ a : Fin 64, m = Int32.ofNat a.val ∧ (a.val : Int) = m.toInt := by
  refine ⟨⟨m.toInt.toNat, by omega⟩, ?_, ?_⟩
  · apply Int32.toInt_inj.mp
    show m.toInt = (Int32.ofNat m.toInt.toNat).toInt
    rw [Int32.toInt_ofNat_of_lt (show m.toInt.toNat < 2 ^ 31 by omega)]
    omega
  · show ((m.toInt.toNat : Nat) : Int) = m.toInt
    omega
theorem own_bit_ne {m : Int32} (h : 0 ≤ m.toInt ∧ m.toInt < 64) : own_bit m ≠ 0 := by
  obtain ⟨a, rfl, -⟩ := own_of_rng m h
  exact (own_bit_tab a a).2
theorem own_bit_and {m k : Int32} (h : 0 ≤ m.toInt ∧ m.toInt < 64) (h' : 0 ≤ k.toInt ∧ k.toInt < 64) : (own_bit m &&& own_bit k) = 0 ↔ m.toInt ≠ k.toInt := by
  obtain ⟨a, rfl, ea⟩ := own_of_rng m h
  obtain ⟨b, rfl, eb⟩ := own_of_rng k h'
  rw [(own_bit_tab a b).1, ← ea, ← eb]
  constructor
  · intro q z
    exact q (Fin.ext (by omega))
  · intro q z
    exact q (by rw [z])
theorem d1_0 : decode method_2_code 0 = .ok (.iload_n 0, 1) := by decide +kernel
theorem d1_1 : decode method_2_code 1 = .ok (.ifCond .ne 7, 3) := by decide +kernel
theorem d1_4 : decode method_2_code 4 = .ok (.getstatic 7, 3) := by decide +kernel
theorem d1_7 : decode method_2_code 7 = .ok (.areturn, 1) := by decide +kernel
theorem pn_1 : plainName "com/example/crackline/crackline/SeenValuesAddPinLaw" = true := by first | (simp [plainName, overriddenIn]; done) | decide +kernel
theorem ef_1 (m : MethodId) (x0 : Int32) : entryFrame m #[(.int x0)] 1 = mkF m 0 #[.val (.int x0)] [] := by first | (simp [entryFrame, mkF, argsToLocals, Value.category]; done) | rfl
abbrev M1 (l : Launch) (Z : State) (ws : List Jvm.Cond) (p1 : Int32) (h0 : Heap) (n0 : Nat) (r : Option Value) : Prop := MetFree l (⟨"com/example/crackline/crackline/SeenValuesAddPinLaw", "kindOf", "(I)Lcom/example/crackline/crackline/PriceKind;"⟩ : MethodName) (head1 (Jvm.Cond.code (⟨"com/example/crackline/crackline/SeenValuesAddPinLaw", "kindOf", "(I)Lcom/example/crackline/crackline/PriceKind;"⟩ : MethodName) method_2_code 1 (some (.object "com/example/crackline/crackline/PriceKind")) :: ws) ({ frames := 0, cells := 0, slots := 0, locals := 0 } : Room)) (fun a U => a = #[(.int p1)] ∧ Z.Warmed39 U.vm ∧ U.heap = h0) (fun _ _ _ _ _ => True) (fun _ U o U' => ∃ v L, o = .returned v ∧ own_Q r h0 n0 v U'.heap L ∧ FrameEnd U o U' L ({ frames := 0, cells := 0, slots := 0, locals := 0 } : Room).cells ({ frames := 0, cells := 0, slots := 0, locals := 0 } : Room).slots)
set_option maxRecDepth 65536 in
set_option maxHeartbeats 40000000 in
theorem rm1_0 (l : Launch) (Z : State) (a0 : Array Value) (hw : ∀ d ∈ tables_1, d.before a0 Z = true) (ws : List Jvm.Cond) (p1 : Int32) (w2 : Addr) (h0 : Heap) (n0 : Nat) (Z0 : n0 ≤ h0.size) (S_HIGH : Sta Z h0 "com/example/crackline/crackline/PriceKind" "HIGH" "Lcom/example/crackline/crackline/PriceKind;" (.ref w2)) (hc1 : p1 = (0 : Int32)) :
    M1 l Z ws p1 h0 n0 (some (.ref w2)) := by
  refine MetFree.of_bodySF (plainFor_of_name pn_1) hisR ?_
  intro p e s m args below meth c s₁ Bd hml0 hP hK
  obtain ⟨rfl, hZ, hh⟩ := hP
  have hx := Bd.exec
  have hby := Bd.bytes
  have hml : c.maxLocals = 1 := hml0
  have hown : s.vm.findClass "com/example/crackline/crackline/SeenValuesAddPinLaw" = some m.cls := findClass_of_methodNamed Bd.named
  have hnm := (name_of_methodNamed Bd.named Bd.method).1
  have X0 : Stand p l e ({ frames := 0, cells := 0, slots := 0, locals := 0 } : Room) s m #[(.int p1)] below meth c s₁ [] 0 0 := Stand.of_body Bd
  have e0 : s₁.heap = h0 := by rw [← hh, Bd.state]; rfl
  have N0 := Fr.nil n0
  have pre0 : ∀ t, Steps p.tables e below (s₁.setTop (mkF m 0 #[.val (.int p1)] [])) t → Steps p.tables e below (s₁.setTop (entryFrame m #[(.int p1)] 1)) t := fun t k => castTop (ef_1 m p1) k
  obtain ⟨T3, X3, e3, st3⟩ := getS2 X0 hx hZ hown (host := "") (Or.inl (hw _ (List.mem_of_getElem? (i := 87) rfl))) Via.refl e0 S_HIGH (g := (mkF m 4 #[.val (.int p1)] [])) rfl (hb hby d1_4)
  obtain ⟨fs, hr, hrun, hended, hW, hsame⟩ := X3.leave (v := some (.ref w2)) (fun h => by rw [Bd.returns] at h; cases h)
  refine ⟨_, _, pre0 _ ?_, hrun, hended, _, _, rfl, ?_, ⟨_, rfl⟩, hW, hsame.mono (by decide) (by decide)⟩
  · show Steps p.tables e below (s₁.setTop (mkF m 0 #[.val (.int p1)] [])) _
    refine XS.iloadN X0.here hx rfl (hb hby d1_0) rfl ?_
    show Steps p.tables e below (s₁.setTop (mkF m 1 #[.val (.int p1)] [(.int p1)])) _
    refine XS.ifNo X0.here hx rfl (hb hby d1_1) rfl ((if0 _ _).trans (teq hc1).2) ?_
    show Steps p.tables e below (s₁.setTop (mkF m 4 #[.val (.int p1)] [])) _
    refine st3 _ ?_
    show Steps p.tables e below (T3.setTop (mkF m 7 #[.val (.int p1)] [(.ref w2)])) _
    jvm_step X3.here [X3.here.top, hx, (hb hby d1_7), X3.method', Bd.returns, Value.isRef, FieldType.isReference]
    first | (intro acts; rw [hr _ acts rfl rfl rfl]) | rw [hr _ _ rfl rfl rfl]
    exact Steps.refl _
  · show own_Q (some (.ref w2)) h0 n0 _ T3.heap _
    rw [e3]
    exact ⟨rfl, N0, rfl⟩
theorem d1_8 : decode method_2_code 8 = .ok (.iload_n 0, 1) := by decide +kernel
theorem d1_9 : decode method_2_code 9 = .ok (.iconst 1, 1) := by decide +kernel
theorem d1_10 : decode method_2_code 10 = .ok (.if_icmp .ne 7, 3) := by decide +kernel
theorem d1_13 : decode method_2_code 13 = .ok (.getstatic 13, 3) := by decide +kernel
theorem d1_16 : decode method_2_code 16 = .ok (.areturn, 1) := by decide +kernel
set_option maxRecDepth 65536 in
set_option maxHeartbeats 40000000 in
theorem rm1_1 (l : Launch) (Z : State) (a0 : Array Value) (hw : ∀ d ∈ tables_1, d.before a0 Z = true) (ws : List Jvm.Cond) (p1 : Int32) (w2 : Addr) (h0 : Heap) (n0 : Nat) (Z0 : n0 ≤ h0.size) (S_LOW : Sta Z h0 "com/example/crackline/crackline/PriceKind" "LOW" "Lcom/example/crackline/crackline/PriceKind;" (.ref w2)) (hc1 : ¬ (p1 = (0 : Int32))) (hc10 : p1 = (1 : Int32)) :
    M1 l Z ws p1 h0 n0 (some (.ref w2)) := by
  refine MetFree.of_bodySF (plainFor_of_name pn_1) hisR ?_
  intro p e s m args below meth c s₁ Bd hml0 hP hK
  obtain ⟨rfl, hZ, hh⟩ := hP
  have hx := Bd.exec
  have hby := Bd.bytes
  have hml : c.maxLocals = 1 := hml0
  have hown : s.vm.findClass "com/example/crackline/crackline/SeenValuesAddPinLaw" = some m.cls := findClass_of_methodNamed Bd.named
  have hnm := (name_of_methodNamed Bd.named Bd.method).1
  have X0 : Stand p l e ({ frames := 0, cells := 0, slots := 0, locals := 0 } : Room) s m #[(.int p1)] below meth c s₁ [] 0 0 := Stand.of_body Bd
  have e0 : s₁.heap = h0 := by rw [← hh, Bd.state]; rfl
  have N0 := Fr.nil n0
  have pre0 : ∀ t, Steps p.tables e below (s₁.setTop (mkF m 0 #[.val (.int p1)] [])) t → Steps p.tables e below (s₁.setTop (entryFrame m #[(.int p1)] 1)) t := fun t k => castTop (ef_1 m p1) k
  obtain ⟨T3, X3, e3, st3⟩ := getS2 X0 hx hZ hown (host := "") (Or.inl (hw _ (List.mem_of_getElem? (i := 81) rfl))) Via.refl e0 S_LOW (g := (mkF m 13 #[.val (.int p1)] [])) rfl (hb hby d1_13)
  obtain ⟨fs, hr, hrun, hended, hW, hsame⟩ := X3.leave (v := some (.ref w2)) (fun h => by rw [Bd.returns] at h; cases h)
  refine ⟨_, _, pre0 _ ?_, hrun, hended, _, _, rfl, ?_, ⟨_, rfl⟩, hW, hsame.mono (by decide) (by decide)⟩
  · show Steps p.tables e below (s₁.setTop (mkF m 0 #[.val (.int p1)] [])) _
    refine XS.iloadN X0.here hx rfl (hb hby d1_0) rfl ?_
    show Steps p.tables e below (s₁.setTop (mkF m 1 #[.val (.int p1)] [(.int p1)])) _
    refine XS.ifYes X0.here hx rfl (pc0 := 1) (pc' := 8) rfl (hb hby d1_1) rfl ((if0 _ _).trans (feq hc1).2) (by decide) (by decide) ?_
    show Steps p.tables e below (s₁.setTop (mkF m 8 #[.val (.int p1)] [])) _
    refine XS.iloadN X0.here hx rfl (hb hby d1_8) rfl ?_
    show Steps p.tables e below (s₁.setTop (mkF m 9 #[.val (.int p1)] [(.int p1)])) _
    refine XS.iconst X0.here hx rfl (hb hby d1_9) ?_
    show Steps p.tables e below (s₁.setTop (mkF m 10 #[.val (.int p1)] [(.int (1 : Int32)), (.int p1)])) _
    refine XS.icmpNo X0.here hx rfl (hb hby d1_10) rfl (teq hc10).2 ?_
    show Steps p.tables e below (s₁.setTop (mkF m 13 #[.val (.int p1)] [])) _
    refine st3 _ ?_
    show Steps p.tables e below (T3.setTop (mkF m 16 #[.val (.int p1)] [(.ref w2)])) _
    jvm_step X3.here [X3.here.top, hx, (hb hby d1_16), X3.method', Bd.returns, Value.isRef, FieldType.isReference]
    first | (intro acts; rw [hr _ acts rfl rfl rfl]) | rw [hr _ _ rfl rfl rfl]
    exact Steps.refl _
  · show own_Q (some (.ref w2)) h0 n0 _ T3.heap _
    rw [e3]
    exact ⟨rfl, N0, rfl⟩
theorem d1_17 : decode method_2_code 17 = .ok (.iload_n 0, 1) := by decide +kernel
theorem d1_18 : decode method_2_code 18 = .ok (.iconst 2, 1) := by decide +kernel
theorem d1_19 : decode method_2_code 19 = .ok (.if_icmp .ne 7, 3) := by decide +kernel
theorem d1_22 : decode method_2_code 22 = .ok (.getstatic 16, 3) := by decide +kernel
theorem d1_25 : decode method_2_code 25 = .ok (.areturn, 1) := by decide +kernel
set_option maxRecDepth 65536 in
set_option maxHeartbeats 40000000 in
theorem rm1_2 (l : Launch) (Z : State) (a0 : Array Value) (hw : ∀ d ∈ tables_1, d.before a0 Z = true) (ws : List Jvm.Cond) (p1 : Int32) (w2 : Addr) (h0 : Heap) (n0 : Nat) (Z0 : n0 ≤ h0.size) (S_SETTLE1 : Sta Z h0 "com/example/crackline/crackline/PriceKind" "SETTLE1" "Lcom/example/crackline/crackline/PriceKind;" (.ref w2)) (hc1 : ¬ (p1 = (0 : Int32))) (hc10 : ¬ (p1 = (1 : Int32))) (hc19 : p1 = (2 : Int32)) :
    M1 l Z ws p1 h0 n0 (some (.ref w2)) := by
  refine MetFree.of_bodySF (plainFor_of_name pn_1) hisR ?_
  intro p e s m args below meth c s₁ Bd hml0 hP hK
  obtain ⟨rfl, hZ, hh⟩ := hP
  have hx := Bd.exec
  have hby := Bd.bytes
  have hml : c.maxLocals = 1 := hml0
  have hown : s.vm.findClass "com/example/crackline/crackline/SeenValuesAddPinLaw" = some m.cls := findClass_of_methodNamed Bd.named
  have hnm := (name_of_methodNamed Bd.named Bd.method).1
  have X0 : Stand p l e ({ frames := 0, cells := 0, slots := 0, locals := 0 } : Room) s m #[(.int p1)] below meth c s₁ [] 0 0 := Stand.of_body Bd
  have e0 : s₁.heap = h0 := by rw [← hh, Bd.state]; rfl
  have N0 := Fr.nil n0
  have pre0 : ∀ t, Steps p.tables e below (s₁.setTop (mkF m 0 #[.val (.int p1)] [])) t → Steps p.tables e below (s₁.setTop (entryFrame m #[(.int p1)] 1)) t := fun t k => castTop (ef_1 m p1) k
  obtain ⟨T3, X3, e3, st3⟩ := getS2 X0 hx hZ hown (host := "") (Or.inl (hw _ (List.mem_of_getElem? (i := 79) rfl))) Via.refl e0 S_SETTLE1 (g := (mkF m 22 #[.val (.int p1)] [])) rfl (hb hby d1_22)
  obtain ⟨fs, hr, hrun, hended, hW, hsame⟩ := X3.leave (v := some (.ref w2)) (fun h => by rw [Bd.returns] at h; cases h)
  refine ⟨_, _, pre0 _ ?_, hrun, hended, _, _, rfl, ?_, ⟨_, rfl⟩, hW, hsame.mono (by decide) (by decide)⟩
  · show Steps p.tables e below (s₁.setTop (mkF m 0 #[.val (.int p1)] [])) _
    refine XS.iloadN X0.here hx rfl (hb hby d1_0) rfl ?_
    show Steps p.tables e below (s₁.setTop (mkF m 1 #[.val (.int p1)] [(.int p1)])) _
    refine XS.ifYes X0.here hx rfl (pc0 := 1) (pc' := 8) rfl (hb hby d1_1) rfl ((if0 _ _).trans (feq hc1).2) (by decide) (by decide) ?_
    show Steps p.tables e below (s₁.setTop (mkF m 8 #[.val (.int p1)] [])) _
    refine XS.iloadN X0.here hx rfl (hb hby d1_8) rfl ?_
    show Steps p.tables e below (s₁.setTop (mkF m 9 #[.val (.int p1)] [(.int p1)])) _
    refine XS.iconst X0.here hx rfl (hb hby d1_9) ?_
    show Steps p.tables e below (s₁.setTop (mkF m 10 #[.val (.int p1)] [(.int (1 : Int32)), (.int p1)])) _
    refine XS.icmpYes X0.here hx rfl (pc0 := 10) (pc' := 17) rfl (hb hby d1_10) rfl (feq hc10).2 (by decide) (by decide) ?_
    show Steps p.tables e below (s₁.setTop (mkF m 17 #[.val (.int p1)] [])) _
    refine XS.iloadN X0.here hx rfl (hb hby d1_17) rfl ?_
    show Steps p.tables e below (s₁.setTop (mkF m 18 #[.val (.int p1)] [(.int p1)])) _
    refine XS.iconst X0.here hx rfl (hb hby d1_18) ?_
    show Steps p.tables e below (s₁.setTop (mkF m 19 #[.val (.int p1)] [(.int (2 : Int32)), (.int p1)])) _
    refine XS.icmpNo X0.here hx rfl (hb hby d1_19) rfl (teq hc19).2 ?_
    show Steps p.tables e below (s₁.setTop (mkF m 22 #[.val (.int p1)] [])) _
    refine st3 _ ?_
    show Steps p.tables e below (T3.setTop (mkF m 25 #[.val (.int p1)] [(.ref w2)])) _
    jvm_step X3.here [X3.here.top, hx, (hb hby d1_25), X3.method', Bd.returns, Value.isRef, FieldType.isReference]
    first | (intro acts; rw [hr _ acts rfl rfl rfl]) | rw [hr _ _ rfl rfl rfl]
    exact Steps.refl _
  · show own_Q (some (.ref w2)) h0 n0 _ T3.heap _
    rw [e3]
    exact ⟨rfl, N0, rfl⟩
theorem d1_26 : decode method_2_code 26 = .ok (.iload_n 0, 1) := by decide +kernel
theorem d1_27 : decode method_2_code 27 = .ok (.iconst 3, 1) := by decide +kernel
theorem d1_28 : decode method_2_code 28 = .ok (.if_icmp .ne 7, 3) := by decide +kernel
theorem d1_31 : decode method_2_code 31 = .ok (.getstatic 19, 3) := by decide +kernel
theorem d1_34 : decode method_2_code 34 = .ok (.areturn, 1) := by decide +kernel
set_option maxRecDepth 65536 in
set_option maxHeartbeats 40000000 in
theorem rm1_3 (l : Launch) (Z : State) (a0 : Array Value) (hw : ∀ d ∈ tables_1, d.before a0 Z = true) (ws : List Jvm.Cond) (p1 : Int32) (w2 : Addr) (h0 : Heap) (n0 : Nat) (Z0 : n0 ≤ h0.size) (S_SETTLE2 : Sta Z h0 "com/example/crackline/crackline/PriceKind" "SETTLE2" "Lcom/example/crackline/crackline/PriceKind;" (.ref w2)) (hc1 : ¬ (p1 = (0 : Int32))) (hc10 : ¬ (p1 = (1 : Int32))) (hc19 : ¬ (p1 = (2 : Int32))) (hc28 : p1 = (3 : Int32)) :
    M1 l Z ws p1 h0 n0 (some (.ref w2)) := by
  refine MetFree.of_bodySF (plainFor_of_name pn_1) hisR ?_
  intro p e s m args below meth c s₁ Bd hml0 hP hK
  obtain ⟨rfl, hZ, hh⟩ := hP
  have hx := Bd.exec
  have hby := Bd.bytes
  have hml : c.maxLocals = 1 := hml0
  have hown : s.vm.findClass "com/example/crackline/crackline/SeenValuesAddPinLaw" = some m.cls := findClass_of_methodNamed Bd.named
  have hnm := (name_of_methodNamed Bd.named Bd.method).1
  have X0 : Stand p l e ({ frames := 0, cells := 0, slots := 0, locals := 0 } : Room) s m #[(.int p1)] below meth c s₁ [] 0 0 := Stand.of_body Bd
  have e0 : s₁.heap = h0 := by rw [← hh, Bd.state]; rfl
  have N0 := Fr.nil n0
  have pre0 : ∀ t, Steps p.tables e below (s₁.setTop (mkF m 0 #[.val (.int p1)] [])) t → Steps p.tables e below (s₁.setTop (entryFrame m #[(.int p1)] 1)) t := fun t k => castTop (ef_1 m p1) k
  obtain ⟨T3, X3, e3, st3⟩ := getS2 X0 hx hZ hown (host := "") (Or.inl (hw _ (List.mem_of_getElem? (i := 7) rfl))) Via.refl e0 S_SETTLE2 (g := (mkF m 31 #[.val (.int p1)] [])) rfl (hb hby d1_31)
  obtain ⟨fs, hr, hrun, hended, hW, hsame⟩ := X3.leave (v := some (.ref w2)) (fun h => by rw [Bd.returns] at h; cases h)
  refine ⟨_, _, pre0 _ ?_, hrun, hended, _, _, rfl, ?_, ⟨_, rfl⟩, hW, hsame.mono (by decide) (by decide)⟩
  · show Steps p.tables e below (s₁.setTop (mkF m 0 #[.val (.int p1)] [])) _
    refine XS.iloadN X0.here hx rfl (hb hby d1_0) rfl ?_
    show Steps p.tables e below (s₁.setTop (mkF m 1 #[.val (.int p1)] [(.int p1)])) _
    refine XS.ifYes X0.here hx rfl (pc0 := 1) (pc' := 8) rfl (hb hby d1_1) rfl ((if0 _ _).trans (feq hc1).2) (by decide) (by decide) ?_
    show Steps p.tables e below (s₁.setTop (mkF m 8 #[.val (.int p1)] [])) _
    refine XS.iloadN X0.here hx rfl (hb hby d1_8) rfl ?_
    show Steps p.tables e below (s₁.setTop (mkF m 9 #[.val (.int p1)] [(.int p1)])) _
    refine XS.iconst X0.here hx rfl (hb hby d1_9) ?_
    show Steps p.tables e below (s₁.setTop (mkF m 10 #[.val (.int p1)] [(.int (1 : Int32)), (.int p1)])) _
    refine XS.icmpYes X0.here hx rfl (pc0 := 10) (pc' := 17) rfl (hb hby d1_10) rfl (feq hc10).2 (by decide) (by decide) ?_
    show Steps p.tables e below (s₁.setTop (mkF m 17 #[.val (.int p1)] [])) _
    refine XS.iloadN X0.here hx rfl (hb hby d1_17) rfl ?_
    show Steps p.tables e below (s₁.setTop (mkF m 18 #[.val (.int p1)] [(.int p1)])) _
    refine XS.iconst X0.here hx rfl (hb hby d1_18) ?_
    show Steps p.tables e below (s₁.setTop (mkF m 19 #[.val (.int p1)] [(.int (2 : Int32)), (.int p1)])) _
    refine XS.icmpYes X0.here hx rfl (pc0 := 19) (pc' := 26) rfl (hb hby d1_19) rfl (feq hc19).2 (by decide) (by decide) ?_
    show Steps p.tables e below (s₁.setTop (mkF m 26 #[.val (.int p1)] [])) _
    refine XS.iloadN X0.here hx rfl (hb hby d1_26) rfl ?_
    show Steps p.tables e below (s₁.setTop (mkF m 27 #[.val (.int p1)] [(.int p1)])) _
    refine XS.iconst X0.here hx rfl (hb hby d1_27) ?_
    show Steps p.tables e below (s₁.setTop (mkF m 28 #[.val (.int p1)] [(.int (3 : Int32)), (.int p1)])) _
    refine XS.icmpNo X0.here hx rfl (hb hby d1_28) rfl (teq hc28).2 ?_
    show Steps p.tables e below (s₁.setTop (mkF m 31 #[.val (.int p1)] [])) _
    refine st3 _ ?_
    show Steps p.tables e below (T3.setTop (mkF m 34 #[.val (.int p1)] [(.ref w2)])) _
    jvm_step X3.here [X3.here.top, hx, (hb hby d1_34), X3.method', Bd.returns, Value.isRef, FieldType.isReference]
    first | (intro acts; rw [hr _ acts rfl rfl rfl]) | rw [hr _ _ rfl rfl rfl]
    exact Steps.refl _
  · show own_Q (some (.ref w2)) h0 n0 _ T3.heap _
    rw [e3]
    exact ⟨rfl, N0, rfl⟩
theorem d1_35 : decode method_2_code 35 = .ok (.getstatic 22, 3) := by decide +kernel
theorem d1_38 : decode method_2_code 38 = .ok (.areturn, 1) := by decide +kernel
set_option maxRecDepth 65536 in
set_option maxHeartbeats 40000000 in
theorem rm1_4 (l : Launch) (Z : State) (a0 : Array Value) (hw : ∀ d ∈ tables_1, d.before a0 Z = true) (ws : List Jvm.Cond) (p1 : Int32) (w2 : Addr) (h0 : Heap) (n0 : Nat) (Z0 : n0 ≤ h0.size) (S_RATE : Sta Z h0 "com/example/crackline/crackline/PriceKind" "RATE" "Lcom/example/crackline/crackline/PriceKind;" (.ref w2)) (hc1 : ¬ (p1 = (0 : Int32))) (hc10 : ¬ (p1 = (1 : Int32))) (hc19 : ¬ (p1 = (2 : Int32))) (hc28 : ¬ (p1 = (3 : Int32))) :
    M1 l Z ws p1 h0 n0 (some (.ref w2)) := by
  refine MetFree.of_bodySF (plainFor_of_name pn_1) hisR ?_
  intro p e s m args below meth c s₁ Bd hml0 hP hK
  obtain ⟨rfl, hZ, hh⟩ := hP
  have hx := Bd.exec
  have hby := Bd.bytes
  have hml : c.maxLocals = 1 := hml0
  have hown : s.vm.findClass "com/example/crackline/crackline/SeenValuesAddPinLaw" = some m.cls := findClass_of_methodNamed Bd.named
  have hnm := (name_of_methodNamed Bd.named Bd.method).1
  have X0 : Stand p l e ({ frames := 0, cells := 0, slots := 0, locals := 0 } : Room) s m #[(.int p1)] below meth c s₁ [] 0 0 := Stand.of_body Bd
  have e0 : s₁.heap = h0 := by rw [← hh, Bd.state]; rfl
  have N0 := Fr.nil n0
  have pre0 : ∀ t, Steps p.tables e below (s₁.setTop (mkF m 0 #[.val (.int p1)] [])) t → Steps p.tables e below (s₁.setTop (entryFrame m #[(.int p1)] 1)) t := fun t k => castTop (ef_1 m p1) k
  obtain ⟨T3, X3, e3, st3⟩ := getS2 X0 hx hZ hown (host := "") (Or.inl (hw _ (List.mem_of_getElem? (i := 85) rfl))) Via.refl e0 S_RATE (g := (mkF m 35 #[.val (.int p1)] [])) rfl (hb hby d1_35)
  obtain ⟨fs, hr, hrun, hended, hW, hsame⟩ := X3.leave (v := some (.ref w2)) (fun h => by rw [Bd.returns] at h; cases h)
  refine ⟨_, _, pre0 _ ?_, hrun, hended, _, _, rfl, ?_, ⟨_, rfl⟩, hW, hsame.mono (by decide) (by decide)⟩
  · show Steps p.tables e below (s₁.setTop (mkF m 0 #[.val (.int p1)] [])) _
    refine XS.iloadN X0.here hx rfl (hb hby d1_0) rfl ?_
    show Steps p.tables e below (s₁.setTop (mkF m 1 #[.val (.int p1)] [(.int p1)])) _
    refine XS.ifYes X0.here hx rfl (pc0 := 1) (pc' := 8) rfl (hb hby d1_1) rfl ((if0 _ _).trans (feq hc1).2) (by decide) (by decide) ?_
    show Steps p.tables e below (s₁.setTop (mkF m 8 #[.val (.int p1)] [])) _
    refine XS.iloadN X0.here hx rfl (hb hby d1_8) rfl ?_
    show Steps p.tables e below (s₁.setTop (mkF m 9 #[.val (.int p1)] [(.int p1)])) _
    refine XS.iconst X0.here hx rfl (hb hby d1_9) ?_
    show Steps p.tables e below (s₁.setTop (mkF m 10 #[.val (.int p1)] [(.int (1 : Int32)), (.int p1)])) _
    refine XS.icmpYes X0.here hx rfl (pc0 := 10) (pc' := 17) rfl (hb hby d1_10) rfl (feq hc10).2 (by decide) (by decide) ?_
    show Steps p.tables e below (s₁.setTop (mkF m 17 #[.val (.int p1)] [])) _
    refine XS.iloadN X0.here hx rfl (hb hby d1_17) rfl ?_
    show Steps p.tables e below (s₁.setTop (mkF m 18 #[.val (.int p1)] [(.int p1)])) _
    refine XS.iconst X0.here hx rfl (hb hby d1_18) ?_
    show Steps p.tables e below (s₁.setTop (mkF m 19 #[.val (.int p1)] [(.int (2 : Int32)), (.int p1)])) _
    refine XS.icmpYes X0.here hx rfl (pc0 := 19) (pc' := 26) rfl (hb hby d1_19) rfl (feq hc19).2 (by decide) (by decide) ?_
    show Steps p.tables e below (s₁.setTop (mkF m 26 #[.val (.int p1)] [])) _
    refine XS.iloadN X0.here hx rfl (hb hby d1_26) rfl ?_
    show Steps p.tables e below (s₁.setTop (mkF m 27 #[.val (.int p1)] [(.int p1)])) _
    refine XS.iconst X0.here hx rfl (hb hby d1_27) ?_
    show Steps p.tables e below (s₁.setTop (mkF m 28 #[.val (.int p1)] [(.int (3 : Int32)), (.int p1)])) _
    refine XS.icmpYes X0.here hx rfl (pc0 := 28) (pc' := 35) rfl (hb hby d1_28) rfl (feq hc28).2 (by decide) (by decide) ?_
    show Steps p.tables e below (s₁.setTop (mkF m 35 #[.val (.int p1)] [])) _
    refine st3 _ ?_
    show Steps p.tables e below (T3.setTop (mkF m 38 #[.val (.int p1)] [(.ref w2)])) _
    jvm_step X3.here [X3.here.top, hx, (hb hby d1_38), X3.method', Bd.returns, Value.isRef, FieldType.isReference]
    first | (intro acts; rw [hr _ acts rfl rfl rfl]) | rw [hr _ _ rfl rfl rfl]
    exact Steps.refl _
  · show own_Q (some (.ref w2)) h0 n0 _ T3.heap _
    rw [e3]
    exact ⟨rfl, N0, rfl⟩
theorem d5_0 : decode jdk_29_method_28_code 0 = .ok (.iload_n 0, 1) := by decide +kernel
theorem d5_1 : decode jdk_29_method_28_code 1 = .ok (.i2l, 1) := by decide +kernel
theorem d5_2 : decode jdk_29_method_28_code 2 = .ok (.iload_n 1, 1) := by decide +kernel
theorem d5_3 : decode jdk_29_method_28_code 3 = .ok (.i2l, 1) := by decide +kernel
theorem d5_4 : decode jdk_29_method_28_code 4 = .ok (.lmul, 1) := by decide +kernel
theorem d5_5 : decode jdk_29_method_28_code 5 = .ok (.lstore_n 2, 1) := by decide +kernel
theorem d5_6 : decode jdk_29_method_28_code 6 = .ok (.lload_n 2, 1) := by decide +kernel
theorem d5_7 : decode jdk_29_method_28_code 7 = .ok (.l2i, 1) := by decide +kernel
theorem d5_8 : decode jdk_29_method_28_code 8 = .ok (.i2l, 1) := by decide +kernel
theorem d5_9 : decode jdk_29_method_28_code 9 = .ok (.lload_n 2, 1) := by decide +kernel
theorem d5_10 : decode jdk_29_method_28_code 10 = .ok (.lcmp, 1) := by decide +kernel
theorem d5_11 : decode jdk_29_method_28_code 11 = .ok (.ifCond .eq 13, 3) := by decide +kernel
theorem d5_24 : decode jdk_29_method_28_code 24 = .ok (.lload_n 2, 1) := by decide +kernel
theorem d5_25 : decode jdk_29_method_28_code 25 = .ok (.l2i, 1) := by decide +kernel
theorem d5_26 : decode jdk_29_method_28_code 26 = .ok (.ireturn, 1) := by decide +kernel
theorem ef_5 (m : MethodId) (x0 : Int32) (x1 : Int32) : entryFrame m #[(.int x0), (.int x1)] 4 = mkF m 0 #[.val (.int x0), .val (.int x1), .unset, .unset] [] := by first | (simp [entryFrame, mkF, argsToLocals, Value.category]; done) | rfl
abbrev M5 (l : Launch) (Z : State) (ws : List Jvm.Cond) (p1 : Int32) (p2 : Int32) (h0 : Heap) (n0 : Nat) (r : Option Value) : Prop := MetFree l (⟨"java/lang/Math", "multiplyExact", "(II)I"⟩ : MethodName) (head1 (Jvm.Cond.code (⟨"java/lang/Math", "multiplyExact", "(II)I"⟩ : MethodName) jdk_29_method_28_code 4 (some .int) :: ws) ({ frames := 0, cells := 0, slots := 0, locals := 0 } : Room)) (fun a U => a = #[(.int p1), (.int p2)] ∧ Z.Warmed39 U.vm ∧ U.heap = h0) (fun _ _ _ _ _ => True) (fun _ U o U' => ∃ v L, o = .returned v ∧ own_Q r h0 n0 v U'.heap L ∧ FrameEnd U o U' L ({ frames := 0, cells := 0, slots := 0, locals := 0 } : Room).cells ({ frames := 0, cells := 0, slots := 0, locals := 0 } : Room).slots)
set_option maxRecDepth 65536 in
set_option maxHeartbeats 40000000 in
theorem rm5 (l : Launch) (Z : State) (a0 : Array Value) (hw : ∀ d ∈ tables_1, d.before a0 Z = true) (ws : List Jvm.Cond) (p1 : Int32) (p2 : Int32) (h0 : Heap) (n0 : Nat) (Z0 : n0 ≤ h0.size) (hc11 : (lcmpW ((((p1.toInt64) * (p2.toInt64)).toInt32).toInt64) ((p1.toInt64) * (p2.toInt64))) = (0 : Int32)) :
    M5 l Z ws p1 p2 h0 n0 (some (.int (((p1.toInt64) * (p2.toInt64)).toInt32))) := by
  refine MetFree.of_bodySF (Jvm.Free.JP.mathPlain rfl (by decide +kernel)) hisR ?_
  intro p e s m args below meth c s₁ Bd hml0 hP hK
  obtain ⟨rfl, hZ, hh⟩ := hP
  have hx := Bd.exec
  have hby := Bd.bytes
  have hml : c.maxLocals = 4 := hml0
  have hown : s.vm.findClass "java/lang/Math" = some m.cls := findClass_of_methodNamed Bd.named
  have hnm := (name_of_methodNamed Bd.named Bd.method).1
  have X0 : Stand p l e ({ frames := 0, cells := 0, slots := 0, locals := 0 } : Room) s m #[(.int p1), (.int p2)] below meth c s₁ [] 0 0 := Stand.of_body Bd
  have e0 : s₁.heap = h0 := by rw [← hh, Bd.state]; rfl
  have N0 := Fr.nil n0
  have pre0 : ∀ t, Steps p.tables e below (s₁.setTop (mkF m 0 #[.val (.int p1), .val (.int p2), .unset, .unset] [])) t → Steps p.tables e below (s₁.setTop (entryFrame m #[(.int p1), (.int p2)] 4)) t := fun t k => castTop (ef_5 m p1 p2) k
  obtain ⟨fs, hr, hrun, hended, hW, hsame⟩ := X0.leave (v := some (.int (((p1.toInt64) * (p2.toInt64)).toInt32))) (fun h => by rw [Bd.returns] at h; cases h)
  refine ⟨_, _, pre0 _ ?_, hrun, hended, _, _, rfl, ?_, ⟨_, rfl⟩, hW, hsame.mono (by decide) (by decide)⟩
  · show Steps p.tables e below (s₁.setTop (mkF m 0 #[.val (.int p1), .val (.int p2), .unset, .unset] [])) _
    refine XS.iloadN X0.here hx rfl (hb hby d5_0) rfl ?_
    show Steps p.tables e below (s₁.setTop (mkF m 1 #[.val (.int p1), .val (.int p2), .unset, .unset] [(.int p1)])) _
    refine XS.i2l X0.here hx rfl (hb hby d5_1) rfl ?_
    show Steps p.tables e below (s₁.setTop (mkF m 2 #[.val (.int p1), .val (.int p2), .unset, .unset] [(.long (p1.toInt64))])) _
    refine XS.iloadN X0.here hx rfl (hb hby d5_2) rfl ?_
    show Steps p.tables e below (s₁.setTop (mkF m 3 #[.val (.int p1), .val (.int p2), .unset, .unset] [(.int p2), (.long (p1.toInt64))])) _
    refine XS.i2l X0.here hx rfl (hb hby d5_3) rfl ?_
    show Steps p.tables e below (s₁.setTop (mkF m 4 #[.val (.int p1), .val (.int p2), .unset, .unset] [(.long (p2.toInt64)), (.long (p1.toInt64))])) _
    refine XS.lmul X0.here hx rfl (hb hby d5_4) rfl ?_
    show Steps p.tables e below (s₁.setTop (mkF m 5 #[.val (.int p1), .val (.int p2), .unset, .unset] [(.long ((p1.toInt64) * (p2.toInt64)))])) _
    refine XS.lstoreN X0.here hx rfl (hb hby d5_5) rfl (l' := #[.val (.int p1), .val (.int p2), .val (.long ((p1.toInt64) * (p2.toInt64))), .second]) rfl ?_
    show Steps p.tables e below (s₁.setTop (mkF m 6 #[.val (.int p1), .val (.int p2), .val (.long ((p1.toInt64) * (p2.toInt64))), .second] [])) _
    refine XS.lloadN X0.here hx rfl (hb hby d5_6) rfl ?_
    show Steps p.tables e below (s₁.setTop (mkF m 7 #[.val (.int p1), .val (.int p2), .val (.long ((p1.toInt64) * (p2.toInt64))), .second] [(.long ((p1.toInt64) * (p2.toInt64)))])) _
    refine XS.l2i X0.here hx rfl (hb hby d5_7) rfl ?_
    show Steps p.tables e below (s₁.setTop (mkF m 8 #[.val (.int p1), .val (.int p2), .val (.long ((p1.toInt64) * (p2.toInt64))), .second] [(.int (((p1.toInt64) * (p2.toInt64)).toInt32))])) _
    refine XS.i2l X0.here hx rfl (hb hby d5_8) rfl ?_
    show Steps p.tables e below (s₁.setTop (mkF m 9 #[.val (.int p1), .val (.int p2), .val (.long ((p1.toInt64) * (p2.toInt64))), .second] [(.long ((((p1.toInt64) * (p2.toInt64)).toInt32).toInt64))])) _
    refine XS.lloadN X0.here hx rfl (hb hby d5_9) rfl ?_
    show Steps p.tables e below (s₁.setTop (mkF m 10 #[.val (.int p1), .val (.int p2), .val (.long ((p1.toInt64) * (p2.toInt64))), .second] [(.long ((p1.toInt64) * (p2.toInt64))), (.long ((((p1.toInt64) * (p2.toInt64)).toInt32).toInt64))])) _
    refine XS.lcmp X0.here hx rfl (hb hby d5_10) rfl ?_
    show Steps p.tables e below (s₁.setTop (mkF m 11 #[.val (.int p1), .val (.int p2), .val (.long ((p1.toInt64) * (p2.toInt64))), .second] [(.int (lcmpW ((((p1.toInt64) * (p2.toInt64)).toInt32).toInt64) ((p1.toInt64) * (p2.toInt64))))])) _
    refine XS.ifYes X0.here hx rfl (pc0 := 11) (pc' := 24) rfl (hb hby d5_11) rfl ((if0 _ _).trans (teq hc11).1) (by decide) (by decide) ?_
    show Steps p.tables e below (s₁.setTop (mkF m 24 #[.val (.int p1), .val (.int p2), .val (.long ((p1.toInt64) * (p2.toInt64))), .second] [])) _
    refine XS.lloadN X0.here hx rfl (hb hby d5_24) rfl ?_
    show Steps p.tables e below (s₁.setTop (mkF m 25 #[.val (.int p1), .val (.int p2), .val (.long ((p1.toInt64) * (p2.toInt64))), .second] [(.long ((p1.toInt64) * (p2.toInt64)))])) _
    refine XS.l2i X0.here hx rfl (hb hby d5_25) rfl ?_
    show Steps p.tables e below (s₁.setTop (mkF m 26 #[.val (.int p1), .val (.int p2), .val (.long ((p1.toInt64) * (p2.toInt64))), .second] [(.int (((p1.toInt64) * (p2.toInt64)).toInt32))])) _
    exact retI X0 hx Bd.returns (hb hby d5_26) hr
  · show own_Q (some (.int (((p1.toInt64) * (p2.toInt64)).toInt32))) h0 n0 _ s₁.heap _
    rw [e0]
    exact ⟨rfl, N0, rfl⟩
theorem d6_0 : decode jdk_37_method_2_code 0 = .ok (.aload_n 0, 1) := by decide +kernel
theorem d6_1 : decode jdk_37_method_2_code 1 = .ok (.getfield 7, 3) := by decide +kernel
theorem d6_4 : decode jdk_37_method_2_code 4 = .ok (.ireturn, 1) := by decide +kernel
theorem pn_6 : plainName "java/lang/Enum" = true := by first | (simp [plainName, overriddenIn]; done) | decide +kernel
theorem ef_6 (m : MethodId) (x0 : Addr) : entryFrame m #[(.ref x0)] 1 = mkF m 0 #[.val (.ref x0)] [] := by first | (simp [entryFrame, mkF, argsToLocals, Value.category]; done) | rfl
abbrev M6 (l : Launch) (Z : State) (ws : List Jvm.Cond) (a1 : Addr) (h0 : Heap) (n0 : Nat) (r : Option Value) : Prop := MetFree l (⟨"java/lang/Enum", "ordinal", "()I"⟩ : MethodName) (head1 (Jvm.Cond.code (⟨"java/lang/Enum", "ordinal", "()I"⟩ : MethodName) jdk_37_method_2_code 1 (some .int) :: ws) ({ frames := 0, cells := 0, slots := 0, locals := 0 } : Room)) (fun a U => a = #[(.ref a1)] ∧ Z.Warmed39 U.vm ∧ U.heap = h0) (fun _ _ _ _ _ => True) (fun _ U o U' => ∃ v L, o = .returned v ∧ own_Q r h0 n0 v U'.heap L ∧ FrameEnd U o U' L ({ frames := 0, cells := 0, slots := 0, locals := 0 } : Room).cells ({ frames := 0, cells := 0, slots := 0, locals := 0 } : Room).slots)
set_option maxRecDepth 65536 in
set_option maxHeartbeats 40000000 in
theorem rm6 (l : Launch) (Z : State) (a0 : Array Value) (hw : ∀ d ∈ tables_1, d.before a0 Z = true) (ws : List Jvm.Cond) (a1 : Addr) (w2 : Int32) (h0 : Heap) (n0 : Nat) (Z0 : n0 ≤ h0.size) (F_ordinal_a1 : Fld Z h0 a1 "java/lang/Enum" "ordinal" "I" (.int w2)) :
    M6 l Z ws a1 h0 n0 (some (.int w2)) := by
  refine MetFree.of_bodySF (plainFor_of_name pn_6) hisR ?_
  intro p e s m args below meth c s₁ Bd hml0 hP hK
  obtain ⟨rfl, hZ, hh⟩ := hP
  have hx := Bd.exec
  have hby := Bd.bytes
  have hml : c.maxLocals = 1 := hml0
  have hown : s.vm.findClass "java/lang/Enum" = some m.cls := findClass_of_methodNamed Bd.named
  have hnm := (name_of_methodNamed Bd.named Bd.method).1
  have X0 : Stand p l e ({ frames := 0, cells := 0, slots := 0, locals := 0 } : Room) s m #[(.ref a1)] below meth c s₁ [] 0 0 := Stand.of_body Bd
  have e0 : s₁.heap = h0 := by rw [← hh, Bd.state]; rfl
  have N0 := Fr.nil n0
  have pre0 : ∀ t, Steps p.tables e below (s₁.setTop (mkF m 0 #[.val (.ref a1)] [])) t → Steps p.tables e below (s₁.setTop (entryFrame m #[(.ref a1)] 1)) t := fun t k => castTop (ef_6 m a1) k
  obtain ⟨T3, X3, e3, st3⟩ := getF X0 hx hZ hown (host := "") (Or.inl (hw _ (List.mem_of_getElem? (i := 42) rfl))) Via.refl e0 F_ordinal_a1 (g := (mkF m 1 #[.val (.ref a1)] [(.ref a1)])) rfl rfl (hb hby d6_1)
  obtain ⟨fs, hr, hrun, hended, hW, hsame⟩ := X3.leave (v := some (.int w2)) (fun h => by rw [Bd.returns] at h; cases h)
  refine ⟨_, _, pre0 _ ?_, hrun, hended, _, _, rfl, ?_, ⟨_, rfl⟩, hW, hsame.mono (by decide) (by decide)⟩
  · show Steps p.tables e below (s₁.setTop (mkF m 0 #[.val (.ref a1)] [])) _
    refine XS.aloadN X0.here hx rfl (hb hby d6_0) rfl rfl ?_
    show Steps p.tables e below (s₁.setTop (mkF m 1 #[.val (.ref a1)] [(.ref a1)])) _
    refine st3 _ ?_
    show Steps p.tables e below (T3.setTop (mkF m 4 #[.val (.ref a1)] [(.int w2)])) _
    exact retI X3 hx Bd.returns (hb hby d6_4) hr
  · show own_Q (some (.int w2)) h0 n0 _ T3.heap _
    rw [e3]
    exact ⟨rfl, N0, rfl⟩
theorem d7_0 : decode jdk_29_method_24_code 0 = .ok (.iload_n 0, 1) := by decide +kernel
theorem d7_1 : decode jdk_29_method_24_code 1 = .ok (.iload_n 1, 1) := by decide +kernel
theorem d7_2 : decode jdk_29_method_24_code 2 = .ok (.iadd, 1) := by decide +kernel
theorem d7_3 : decode jdk_29_method_24_code 3 = .ok (.istore_n 2, 1) := by decide +kernel
theorem d7_4 : decode jdk_29_method_24_code 4 = .ok (.iload_n 0, 1) := by decide +kernel
theorem d7_5 : decode jdk_29_method_24_code 5 = .ok (.iload_n 2, 1) := by decide +kernel
theorem d7_6 : decode jdk_29_method_24_code 6 = .ok (.ixor, 1) := by decide +kernel
theorem d7_7 : decode jdk_29_method_24_code 7 = .ok (.iload_n 1, 1) := by decide +kernel
theorem d7_8 : decode jdk_29_method_24_code 8 = .ok (.iload_n 2, 1) := by decide +kernel
theorem d7_9 : decode jdk_29_method_24_code 9 = .ok (.ixor, 1) := by decide +kernel
theorem d7_10 : decode jdk_29_method_24_code 10 = .ok (.iand, 1) := by decide +kernel
theorem d7_11 : decode jdk_29_method_24_code 11 = .ok (.ifCond .ge 13, 3) := by decide +kernel
theorem d7_24 : decode jdk_29_method_24_code 24 = .ok (.iload_n 2, 1) := by decide +kernel
theorem d7_25 : decode jdk_29_method_24_code 25 = .ok (.ireturn, 1) := by decide +kernel
theorem ef_7 (m : MethodId) (x0 : Int32) (x1 : Int32) : entryFrame m #[(.int x0), (.int x1)] 3 = mkF m 0 #[.val (.int x0), .val (.int x1), .unset] [] := by first | (simp [entryFrame, mkF, argsToLocals, Value.category]; done) | rfl
abbrev M7 (l : Launch) (Z : State) (ws : List Jvm.Cond) (p1 : Int32) (p2 : Int32) (h0 : Heap) (n0 : Nat) (r : Option Value) : Prop := MetFree l (⟨"java/lang/Math", "addExact", "(II)I"⟩ : MethodName) (head1 (Jvm.Cond.code (⟨"java/lang/Math", "addExact", "(II)I"⟩ : MethodName) jdk_29_method_24_code 3 (some .int) :: ws) ({ frames := 0, cells := 0, slots := 0, locals := 0 } : Room)) (fun a U => a = #[(.int p1), (.int p2)] ∧ Z.Warmed39 U.vm ∧ U.heap = h0) (fun _ _ _ _ _ => True) (fun _ U o U' => ∃ v L, o = .returned v ∧ own_Q r h0 n0 v U'.heap L ∧ FrameEnd U o U' L ({ frames := 0, cells := 0, slots := 0, locals := 0 } : Room).cells ({ frames := 0, cells := 0, slots := 0, locals := 0 } : Room).slots)
set_option maxRecDepth 65536 in
set_option maxHeartbeats 40000000 in
theorem rm7 (l : Launch) (Z : State) (a0 : Array Value) (hw : ∀ d ∈ tables_1, d.before a0 Z = true) (ws : List Jvm.Cond) (p1 : Int32) (p2 : Int32) (h0 : Heap) (n0 : Nat) (Z0 : n0 ≤ h0.size) (hc11 : ¬ (((p1 ^^^ (p1 + p2)) &&& (p2 ^^^ (p1 + p2))) < (0 : Int32))) :
    M7 l Z ws p1 p2 h0 n0 (some (.int (p1 + p2))) := by
  refine MetFree.of_bodySF (Jvm.Free.JP.mathPlain rfl (by decide +kernel)) hisR ?_
  intro p e s m args below meth c s₁ Bd hml0 hP hK
  obtain ⟨rfl, hZ, hh⟩ := hP
  have hx := Bd.exec
  have hby := Bd.bytes
  have hml : c.maxLocals = 3 := hml0
  have hown : s.vm.findClass "java/lang/Math" = some m.cls := findClass_of_methodNamed Bd.named
  have hnm := (name_of_methodNamed Bd.named Bd.method).1
  have X0 : Stand p l e ({ frames := 0, cells := 0, slots := 0, locals := 0 } : Room) s m #[(.int p1), (.int p2)] below meth c s₁ [] 0 0 := Stand.of_body Bd
  have e0 : s₁.heap = h0 := by rw [← hh, Bd.state]; rfl
  have N0 := Fr.nil n0
  have pre0 : ∀ t, Steps p.tables e below (s₁.setTop (mkF m 0 #[.val (.int p1), .val (.int p2), .unset] [])) t → Steps p.tables e below (s₁.setTop (entryFrame m #[(.int p1), (.int p2)] 3)) t := fun t k => castTop (ef_7 m p1 p2) k
  obtain ⟨fs, hr, hrun, hended, hW, hsame⟩ := X0.leave (v := some (.int (p1 + p2))) (fun h => by rw [Bd.returns] at h; cases h)
  refine ⟨_, _, pre0 _ ?_, hrun, hended, _, _, rfl, ?_, ⟨_, rfl⟩, hW, hsame.mono (by decide) (by decide)⟩
  · show Steps p.tables e below (s₁.setTop (mkF m 0 #[.val (.int p1), .val (.int p2), .unset] [])) _
    refine XS.iloadN X0.here hx rfl (hb hby d7_0) rfl ?_
    show Steps p.tables e below (s₁.setTop (mkF m 1 #[.val (.int p1), .val (.int p2), .unset] [(.int p1)])) _
    refine XS.iloadN X0.here hx rfl (hb hby d7_1) rfl ?_
    show Steps p.tables e below (s₁.setTop (mkF m 2 #[.val (.int p1), .val (.int p2), .unset] [(.int p2), (.int p1)])) _
    refine XS.iadd X0.here hx rfl (hb hby d7_2) rfl ?_
    show Steps p.tables e below (s₁.setTop (mkF m 3 #[.val (.int p1), .val (.int p2), .unset] [(.int (p1 + p2))])) _
    refine XS.istoreN X0.here hx rfl (hb hby d7_3) rfl (l' := #[.val (.int p1), .val (.int p2), .val (.int (p1 + p2))]) rfl ?_
    show Steps p.tables e below (s₁.setTop (mkF m 4 #[.val (.int p1), .val (.int p2), .val (.int (p1 + p2))] [])) _
    refine XS.iloadN X0.here hx rfl (hb hby d7_4) rfl ?_
    show Steps p.tables e below (s₁.setTop (mkF m 5 #[.val (.int p1), .val (.int p2), .val (.int (p1 + p2))] [(.int p1)])) _
    refine XS.iloadN X0.here hx rfl (hb hby d7_5) rfl ?_
    show Steps p.tables e below (s₁.setTop (mkF m 6 #[.val (.int p1), .val (.int p2), .val (.int (p1 + p2))] [(.int (p1 + p2)), (.int p1)])) _
    refine XS.ixor X0.here hx rfl (hb hby d7_6) rfl ?_
    show Steps p.tables e below (s₁.setTop (mkF m 7 #[.val (.int p1), .val (.int p2), .val (.int (p1 + p2))] [(.int (p1 ^^^ (p1 + p2)))])) _
    refine XS.iloadN X0.here hx rfl (hb hby d7_7) rfl ?_
    show Steps p.tables e below (s₁.setTop (mkF m 8 #[.val (.int p1), .val (.int p2), .val (.int (p1 + p2))] [(.int p2), (.int (p1 ^^^ (p1 + p2)))])) _
    refine XS.iloadN X0.here hx rfl (hb hby d7_8) rfl ?_
    show Steps p.tables e below (s₁.setTop (mkF m 9 #[.val (.int p1), .val (.int p2), .val (.int (p1 + p2))] [(.int (p1 + p2)), (.int p2), (.int (p1 ^^^ (p1 + p2)))])) _
    refine XS.ixor X0.here hx rfl (hb hby d7_9) rfl ?_
    show Steps p.tables e below (s₁.setTop (mkF m 10 #[.val (.int p1), .val (.int p2), .val (.int (p1 + p2))] [(.int (p2 ^^^ (p1 + p2))), (.int (p1 ^^^ (p1 + p2)))])) _
    refine XS.iand X0.here hx rfl (hb hby d7_10) rfl ?_
    show Steps p.tables e below (s₁.setTop (mkF m 11 #[.val (.int p1), .val (.int p2), .val (.int (p1 + p2))] [(.int ((p1 ^^^ (p1 + p2)) &&& (p2 ^^^ (p1 + p2))))])) _
    refine XS.ifYes X0.here hx rfl (pc0 := 11) (pc' := 24) rfl (hb hby d7_11) rfl ((if0 _ _).trans (flt hc11).2.1) (by decide) (by decide) ?_
    show Steps p.tables e below (s₁.setTop (mkF m 24 #[.val (.int p1), .val (.int p2), .val (.int (p1 + p2))] [])) _
    refine XS.iloadN X0.here hx rfl (hb hby d7_24) rfl ?_
    show Steps p.tables e below (s₁.setTop (mkF m 25 #[.val (.int p1), .val (.int p2), .val (.int (p1 + p2))] [(.int (p1 + p2))])) _
    exact retI X0 hx Bd.returns (hb hby d7_25) hr
  · show own_Q (some (.int (p1 + p2))) h0 n0 _ s₁.heap _
    rw [e0]
    exact ⟨rfl, N0, rfl⟩
theorem d9_0 : decode jdk_29_method_49_code 0 = .ok (.lload_n 0, 1) := by decide +kernel
theorem d9_1 : decode jdk_29_method_49_code 1 = .ok (.lload_n 2, 1) := by decide +kernel
theorem d9_2 : decode jdk_29_method_49_code 2 = .ok (.ldiv, 1) := by decide +kernel
theorem d9_3 : decode jdk_29_method_49_code 3 = .ok (.lstore 4, 2) := by decide +kernel
theorem d9_5 : decode jdk_29_method_49_code 5 = .ok (.lload_n 0, 1) := by decide +kernel
theorem d9_6 : decode jdk_29_method_49_code 6 = .ok (.lload_n 2, 1) := by decide +kernel
theorem d9_7 : decode jdk_29_method_49_code 7 = .ok (.lxor, 1) := by decide +kernel
theorem d9_8 : decode jdk_29_method_49_code 8 = .ok (.lconst 0, 1) := by decide +kernel
theorem d9_9 : decode jdk_29_method_49_code 9 = .ok (.lcmp, 1) := by decide +kernel
theorem d9_10 : decode jdk_29_method_49_code 10 = .ok (.ifCond .ge 17, 3) := by decide +kernel
theorem d9_27 : decode jdk_29_method_49_code 27 = .ok (.lload 4, 2) := by decide +kernel
theorem d9_29 : decode jdk_29_method_49_code 29 = .ok (.lreturn, 1) := by decide +kernel
theorem ef_9 (m : MethodId) (x0 : Int64) (x1 : Int64) : entryFrame m #[(.long x0), (.long x1)] 6 = mkF m 0 #[.val (.long x0), .second, .val (.long x1), .second, .unset, .unset] [] := by first | (simp [entryFrame, mkF, argsToLocals, Value.category]; done) | rfl
abbrev M9 (l : Launch) (Z : State) (ws : List Jvm.Cond) (q1 : Int64) (q2 : Int64) (h0 : Heap) (n0 : Nat) (r : Option Value) : Prop := MetFree l (⟨"java/lang/Math", "floorDiv", "(JJ)J"⟩ : MethodName) (head1 (Jvm.Cond.code (⟨"java/lang/Math", "floorDiv", "(JJ)J"⟩ : MethodName) jdk_29_method_49_code 6 (some .long) :: ws) ({ frames := 0, cells := 0, slots := 0, locals := 0 } : Room)) (fun a U => a = #[(.long q1), (.long q2)] ∧ Z.Warmed39 U.vm ∧ U.heap = h0) (fun _ _ _ _ _ => True) (fun _ U o U' => ∃ v L, o = .returned v ∧ own_Q r h0 n0 v U'.heap L ∧ FrameEnd U o U' L ({ frames := 0, cells := 0, slots := 0, locals := 0 } : Room).cells ({ frames := 0, cells := 0, slots := 0, locals := 0 } : Room).slots)
set_option maxRecDepth 65536 in
set_option maxHeartbeats 40000000 in
theorem rm9_t (l : Launch) (Z : State) (a0 : Array Value) (hw : ∀ d ∈ tables_1, d.before a0 Z = true) (ws : List Jvm.Cond) (q1 : Int64) (q2 : Int64) (h0 : Heap) (n0 : Nat) (Z0 : n0 ≤ h0.size) (hnz2 : ¬ (q2 = (0 : Int64))) (hc10 : ¬ ((lcmpW (q1 ^^^ q2) (0 : Int64)) < (0 : Int32))) :
    M9 l Z ws q1 q2 h0 n0 (some (.long (q1 / q2))) := by
  refine MetFree.of_bodySF (Jvm.Free.JP.mathPlain rfl (by decide +kernel)) hisR ?_
  intro p e s m args below meth c s₁ Bd hml0 hP hK
  obtain ⟨rfl, hZ, hh⟩ := hP
  have hx := Bd.exec
  have hby := Bd.bytes
  have hml : c.maxLocals = 6 := hml0
  have hown : s.vm.findClass "java/lang/Math" = some m.cls := findClass_of_methodNamed Bd.named
  have hnm := (name_of_methodNamed Bd.named Bd.method).1
  have X0 : Stand p l e ({ frames := 0, cells := 0, slots := 0, locals := 0 } : Room) s m #[(.long q1), (.long q2)] below meth c s₁ [] 0 0 := Stand.of_body Bd
  have e0 : s₁.heap = h0 := by rw [← hh, Bd.state]; rfl
  have N0 := Fr.nil n0
  have pre0 : ∀ t, Steps p.tables e below (s₁.setTop (mkF m 0 #[.val (.long q1), .second, .val (.long q2), .second, .unset, .unset] [])) t → Steps p.tables e below (s₁.setTop (entryFrame m #[(.long q1), (.long q2)] 6)) t := fun t k => castTop (ef_9 m q1 q2) k
  obtain ⟨fs, hr, hrun, hended, hW, hsame⟩ := X0.leave (v := some (.long (q1 / q2))) (fun h => by rw [Bd.returns] at h; cases h)
  refine ⟨_, _, pre0 _ ?_, hrun, hended, _, _, rfl, ?_, ⟨_, rfl⟩, hW, hsame.mono (by decide) (by decide)⟩
  · show Steps p.tables e below (s₁.setTop (mkF m 0 #[.val (.long q1), .second, .val (.long q2), .second, .unset, .unset] [])) _
    refine XS.lloadN X0.here hx rfl (hb hby d9_0) rfl ?_
    show Steps p.tables e below (s₁.setTop (mkF m 1 #[.val (.long q1), .second, .val (.long q2), .second, .unset, .unset] [(.long q1)])) _
    refine XS.lloadN X0.here hx rfl (hb hby d9_1) rfl ?_
    show Steps p.tables e below (s₁.setTop (mkF m 2 #[.val (.long q1), .second, .val (.long q2), .second, .unset, .unset] [(.long q2), (.long q1)])) _
    refine XS.ldiv X0.here hx rfl (hb hby d9_2) rfl hnz2 ?_
    show Steps p.tables e below (s₁.setTop (mkF m 3 #[.val (.long q1), .second, .val (.long q2), .second, .unset, .unset] [(.long (q1 / q2))])) _
    refine XS.lstore X0.here hx rfl (hb hby d9_3) rfl (l' := #[.val (.long q1), .second, .val (.long q2), .second, .val (.long (q1 / q2)), .second]) rfl ?_
    show Steps p.tables e below (s₁.setTop (mkF m 5 #[.val (.long q1), .second, .val (.long q2), .second, .val (.long (q1 / q2)), .second] [])) _
    refine XS.lloadN X0.here hx rfl (hb hby d9_5) rfl ?_
    show Steps p.tables e below (s₁.setTop (mkF m 6 #[.val (.long q1), .second, .val (.long q2), .second, .val (.long (q1 / q2)), .second] [(.long q1)])) _
    refine XS.lloadN X0.here hx rfl (hb hby d9_6) rfl ?_
    show Steps p.tables e below (s₁.setTop (mkF m 7 #[.val (.long q1), .second, .val (.long q2), .second, .val (.long (q1 / q2)), .second] [(.long q2), (.long q1)])) _
    refine XS.lxor X0.here hx rfl (hb hby d9_7) rfl ?_
    show Steps p.tables e below (s₁.setTop (mkF m 8 #[.val (.long q1), .second, .val (.long q2), .second, .val (.long (q1 / q2)), .second] [(.long (q1 ^^^ q2))])) _
    refine XS.lconst X0.here hx rfl (hb hby d9_8) ?_
    show Steps p.tables e below (s₁.setTop (mkF m 9 #[.val (.long q1), .second, .val (.long q2), .second, .val (.long (q1 / q2)), .second] [(.long (0 : Int64)), (.long (q1 ^^^ q2))])) _
    refine XS.lcmp X0.here hx rfl (hb hby d9_9) rfl ?_
    show Steps p.tables e below (s₁.setTop (mkF m 10 #[.val (.long q1), .second, .val (.long q2), .second, .val (.long (q1 / q2)), .second] [(.int (lcmpW (q1 ^^^ q2) (0 : Int64)))])) _
    refine XS.ifYes X0.here hx rfl (pc0 := 10) (pc' := 27) rfl (hb hby d9_10) rfl ((if0 _ _).trans (flt hc10).2.1) (by decide) (by decide) ?_
    show Steps p.tables e below (s₁.setTop (mkF m 27 #[.val (.long q1), .second, .val (.long q2), .second, .val (.long (q1 / q2)), .second] [])) _
    refine XS.lload X0.here hx rfl (hb hby d9_27) rfl ?_
    show Steps p.tables e below (s₁.setTop (mkF m 29 #[.val (.long q1), .second, .val (.long q2), .second, .val (.long (q1 / q2)), .second] [(.long (q1 / q2))])) _
    jvm_step X0.here [X0.here.top, hx, (hb hby d9_29), X0.method', Bd.returns, narrow]
    first | (intro acts; rw [hr _ acts rfl rfl rfl]) | rw [hr _ _ rfl rfl rfl]
    exact Steps.refl _
  · show own_Q (some (.long (q1 / q2))) h0 n0 _ s₁.heap _
    rw [e0]
    exact ⟨rfl, N0, rfl⟩
theorem d9_13 : decode jdk_29_method_49_code 13 = .ok (.lload 4, 2) := by decide +kernel
theorem d9_15 : decode jdk_29_method_49_code 15 = .ok (.lload_n 2, 1) := by decide +kernel
theorem d9_16 : decode jdk_29_method_49_code 16 = .ok (.lmul, 1) := by decide +kernel
theorem d9_17 : decode jdk_29_method_49_code 17 = .ok (.lload_n 0, 1) := by decide +kernel
theorem d9_18 : decode jdk_29_method_49_code 18 = .ok (.lcmp, 1) := by decide +kernel
theorem d9_19 : decode jdk_29_method_49_code 19 = .ok (.ifCond .eq 8, 3) := by decide +kernel
theorem d9_22 : decode jdk_29_method_49_code 22 = .ok (.lload 4, 2) := by decide +kernel
theorem d9_24 : decode jdk_29_method_49_code 24 = .ok (.lconst 1, 1) := by decide +kernel
theorem d9_25 : decode jdk_29_method_49_code 25 = .ok (.lsub, 1) := by decide +kernel
theorem d9_26 : decode jdk_29_method_49_code 26 = .ok (.lreturn, 1) := by decide +kernel
set_option maxRecDepth 65536 in
set_option maxHeartbeats 40000000 in
theorem rm9_ff (l : Launch) (Z : State) (a0 : Array Value) (hw : ∀ d ∈ tables_1, d.before a0 Z = true) (ws : List Jvm.Cond) (q1 : Int64) (q2 : Int64) (h0 : Heap) (n0 : Nat) (Z0 : n0 ≤ h0.size) (hnz2 : ¬ (q2 = (0 : Int64))) (hc10 : (lcmpW (q1 ^^^ q2) (0 : Int64)) < (0 : Int32)) (hc19 : ¬ ((lcmpW ((q1 / q2) * q2) q1) = (0 : Int32))) :
    M9 l Z ws q1 q2 h0 n0 (some (.long ((q1 / q2) - (1 : Int64)))) := by
  refine MetFree.of_bodySF (Jvm.Free.JP.mathPlain rfl (by decide +kernel)) hisR ?_
  intro p e s m args below meth c s₁ Bd hml0 hP hK
  obtain ⟨rfl, hZ, hh⟩ := hP
  have hx := Bd.exec
  have hby := Bd.bytes
  have hml : c.maxLocals = 6 := hml0
  have hown : s.vm.findClass "java/lang/Math" = some m.cls := findClass_of_methodNamed Bd.named
  have hnm := (name_of_methodNamed Bd.named Bd.method).1
  have X0 : Stand p l e ({ frames := 0, cells := 0, slots := 0, locals := 0 } : Room) s m #[(.long q1), (.long q2)] below meth c s₁ [] 0 0 := Stand.of_body Bd
  have e0 : s₁.heap = h0 := by rw [← hh, Bd.state]; rfl
  have N0 := Fr.nil n0
  have pre0 : ∀ t, Steps p.tables e below (s₁.setTop (mkF m 0 #[.val (.long q1), .second, .val (.long q2), .second, .unset, .unset] [])) t → Steps p.tables e below (s₁.setTop (entryFrame m #[(.long q1), (.long q2)] 6)) t := fun t k => castTop (ef_9 m q1 q2) k
  obtain ⟨fs, hr, hrun, hended, hW, hsame⟩ := X0.leave (v := some (.long ((q1 / q2) - (1 : Int64)))) (fun h => by rw [Bd.returns] at h; cases h)
  refine ⟨_, _, pre0 _ ?_, hrun, hended, _, _, rfl, ?_, ⟨_, rfl⟩, hW, hsame.mono (by decide) (by decide)⟩
  · show Steps p.tables e below (s₁.setTop (mkF m 0 #[.val (.long q1), .second, .val (.long q2), .second, .unset, .unset] [])) _
    refine XS.lloadN X0.here hx rfl (hb hby d9_0) rfl ?_
    show Steps p.tables e below (s₁.setTop (mkF m 1 #[.val (.long q1), .second, .val (.long q2), .second, .unset, .unset] [(.long q1)])) _
    refine XS.lloadN X0.here hx rfl (hb hby d9_1) rfl ?_
    show Steps p.tables e below (s₁.setTop (mkF m 2 #[.val (.long q1), .second, .val (.long q2), .second, .unset, .unset] [(.long q2), (.long q1)])) _
    refine XS.ldiv X0.here hx rfl (hb hby d9_2) rfl hnz2 ?_
    show Steps p.tables e below (s₁.setTop (mkF m 3 #[.val (.long q1), .second, .val (.long q2), .second, .unset, .unset] [(.long (q1 / q2))])) _
    refine XS.lstore X0.here hx rfl (hb hby d9_3) rfl (l' := #[.val (.long q1), .second, .val (.long q2), .second, .val (.long (q1 / q2)), .second]) rfl ?_
    show Steps p.tables e below (s₁.setTop (mkF m 5 #[.val (.long q1), .second, .val (.long q2), .second, .val (.long (q1 / q2)), .second] [])) _
    refine XS.lloadN X0.here hx rfl (hb hby d9_5) rfl ?_
    show Steps p.tables e below (s₁.setTop (mkF m 6 #[.val (.long q1), .second, .val (.long q2), .second, .val (.long (q1 / q2)), .second] [(.long q1)])) _
    refine XS.lloadN X0.here hx rfl (hb hby d9_6) rfl ?_
    show Steps p.tables e below (s₁.setTop (mkF m 7 #[.val (.long q1), .second, .val (.long q2), .second, .val (.long (q1 / q2)), .second] [(.long q2), (.long q1)])) _
    refine XS.lxor X0.here hx rfl (hb hby d9_7) rfl ?_
    show Steps p.tables e below (s₁.setTop (mkF m 8 #[.val (.long q1), .second, .val (.long q2), .second, .val (.long (q1 / q2)), .second] [(.long (q1 ^^^ q2))])) _
    refine XS.lconst X0.here hx rfl (hb hby d9_8) ?_
    show Steps p.tables e below (s₁.setTop (mkF m 9 #[.val (.long q1), .second, .val (.long q2), .second, .val (.long (q1 / q2)), .second] [(.long (0 : Int64)), (.long (q1 ^^^ q2))])) _
    refine XS.lcmp X0.here hx rfl (hb hby d9_9) rfl ?_
    show Steps p.tables e below (s₁.setTop (mkF m 10 #[.val (.long q1), .second, .val (.long q2), .second, .val (.long (q1 / q2)), .second] [(.int (lcmpW (q1 ^^^ q2) (0 : Int64)))])) _
    refine XS.ifNo X0.here hx rfl (hb hby d9_10) rfl ((if0 _ _).trans (tlt hc10).2.1) ?_
    show Steps p.tables e below (s₁.setTop (mkF m 13 #[.val (.long q1), .second, .val (.long q2), .second, .val (.long (q1 / q2)), .second] [])) _
    refine XS.lload X0.here hx rfl (hb hby d9_13) rfl ?_
    show Steps p.tables e below (s₁.setTop (mkF m 15 #[.val (.long q1), .second, .val (.long q2), .second, .val (.long (q1 / q2)), .second] [(.long (q1 / q2))])) _
    refine XS.lloadN X0.here hx rfl (hb hby d9_15) rfl ?_
    show Steps p.tables e below (s₁.setTop (mkF m 16 #[.val (.long q1), .second, .val (.long q2), .second, .val (.long (q1 / q2)), .second] [(.long q2), (.long (q1 / q2))])) _
    refine XS.lmul X0.here hx rfl (hb hby d9_16) rfl ?_
    show Steps p.tables e below (s₁.setTop (mkF m 17 #[.val (.long q1), .second, .val (.long q2), .second, .val (.long (q1 / q2)), .second] [(.long ((q1 / q2) * q2))])) _
    refine XS.lloadN X0.here hx rfl (hb hby d9_17) rfl ?_
    show Steps p.tables e below (s₁.setTop (mkF m 18 #[.val (.long q1), .second, .val (.long q2), .second, .val (.long (q1 / q2)), .second] [(.long q1), (.long ((q1 / q2) * q2))])) _
    refine XS.lcmp X0.here hx rfl (hb hby d9_18) rfl ?_
    show Steps p.tables e below (s₁.setTop (mkF m 19 #[.val (.long q1), .second, .val (.long q2), .second, .val (.long (q1 / q2)), .second] [(.int (lcmpW ((q1 / q2) * q2) q1))])) _
    refine XS.ifNo X0.here hx rfl (hb hby d9_19) rfl ((if0 _ _).trans (feq hc19).1) ?_
    show Steps p.tables e below (s₁.setTop (mkF m 22 #[.val (.long q1), .second, .val (.long q2), .second, .val (.long (q1 / q2)), .second] [])) _
    refine XS.lload X0.here hx rfl (hb hby d9_22) rfl ?_
    show Steps p.tables e below (s₁.setTop (mkF m 24 #[.val (.long q1), .second, .val (.long q2), .second, .val (.long (q1 / q2)), .second] [(.long (q1 / q2))])) _
    refine XS.lconst X0.here hx rfl (hb hby d9_24) ?_
    show Steps p.tables e below (s₁.setTop (mkF m 25 #[.val (.long q1), .second, .val (.long q2), .second, .val (.long (q1 / q2)), .second] [(.long (1 : Int64)), (.long (q1 / q2))])) _
    refine XS.lsub X0.here hx rfl (hb hby d9_25) rfl ?_
    show Steps p.tables e below (s₁.setTop (mkF m 26 #[.val (.long q1), .second, .val (.long q2), .second, .val (.long (q1 / q2)), .second] [(.long ((q1 / q2) - (1 : Int64)))])) _
    jvm_step X0.here [X0.here.top, hx, (hb hby d9_26), X0.method', Bd.returns, narrow]
    first | (intro acts; rw [hr _ acts rfl rfl rfl]) | rw [hr _ _ rfl rfl rfl]
    exact Steps.refl _
  · show own_Q (some (.long ((q1 / q2) - (1 : Int64)))) h0 n0 _ s₁.heap _
    rw [e0]
    exact ⟨rfl, N0, rfl⟩
set_option maxRecDepth 65536 in
set_option maxHeartbeats 40000000 in
theorem rm9_ft (l : Launch) (Z : State) (a0 : Array Value) (hw : ∀ d ∈ tables_1, d.before a0 Z = true) (ws : List Jvm.Cond) (q1 : Int64) (q2 : Int64) (h0 : Heap) (n0 : Nat) (Z0 : n0 ≤ h0.size) (hnz2 : ¬ (q2 = (0 : Int64))) (hc10 : (lcmpW (q1 ^^^ q2) (0 : Int64)) < (0 : Int32)) (hc19 : (lcmpW ((q1 / q2) * q2) q1) = (0 : Int32)) :
    M9 l Z ws q1 q2 h0 n0 (some (.long (q1 / q2))) := by
  refine MetFree.of_bodySF (Jvm.Free.JP.mathPlain rfl (by decide +kernel)) hisR ?_
  intro p e s m args below meth c s₁ Bd hml0 hP hK
  obtain ⟨rfl, hZ, hh⟩ := hP
  have hx := Bd.exec
  have hby := Bd.bytes
  have hml : c.maxLocals = 6 := hml0
  have hown : s.vm.findClass "java/lang/Math" = some m.cls := findClass_of_methodNamed Bd.named
  have hnm := (name_of_methodNamed Bd.named Bd.method).1
  have X0 : Stand p l e ({ frames := 0, cells := 0, slots := 0, locals := 0 } : Room) s m #[(.long q1), (.long q2)] below meth c s₁ [] 0 0 := Stand.of_body Bd
  have e0 : s₁.heap = h0 := by rw [← hh, Bd.state]; rfl
  have N0 := Fr.nil n0
  have pre0 : ∀ t, Steps p.tables e below (s₁.setTop (mkF m 0 #[.val (.long q1), .second, .val (.long q2), .second, .unset, .unset] [])) t → Steps p.tables e below (s₁.setTop (entryFrame m #[(.long q1), (.long q2)] 6)) t := fun t k => castTop (ef_9 m q1 q2) k
  obtain ⟨fs, hr, hrun, hended, hW, hsame⟩ := X0.leave (v := some (.long (q1 / q2))) (fun h => by rw [Bd.returns] at h; cases h)
  refine ⟨_, _, pre0 _ ?_, hrun, hended, _, _, rfl, ?_, ⟨_, rfl⟩, hW, hsame.mono (by decide) (by decide)⟩
  · show Steps p.tables e below (s₁.setTop (mkF m 0 #[.val (.long q1), .second, .val (.long q2), .second, .unset, .unset] [])) _
    refine XS.lloadN X0.here hx rfl (hb hby d9_0) rfl ?_
    show Steps p.tables e below (s₁.setTop (mkF m 1 #[.val (.long q1), .second, .val (.long q2), .second, .unset, .unset] [(.long q1)])) _
    refine XS.lloadN X0.here hx rfl (hb hby d9_1) rfl ?_
    show Steps p.tables e below (s₁.setTop (mkF m 2 #[.val (.long q1), .second, .val (.long q2), .second, .unset, .unset] [(.long q2), (.long q1)])) _
    refine XS.ldiv X0.here hx rfl (hb hby d9_2) rfl hnz2 ?_
    show Steps p.tables e below (s₁.setTop (mkF m 3 #[.val (.long q1), .second, .val (.long q2), .second, .unset, .unset] [(.long (q1 / q2))])) _
    refine XS.lstore X0.here hx rfl (hb hby d9_3) rfl (l' := #[.val (.long q1), .second, .val (.long q2), .second, .val (.long (q1 / q2)), .second]) rfl ?_
    show Steps p.tables e below (s₁.setTop (mkF m 5 #[.val (.long q1), .second, .val (.long q2), .second, .val (.long (q1 / q2)), .second] [])) _
    refine XS.lloadN X0.here hx rfl (hb hby d9_5) rfl ?_
    show Steps p.tables e below (s₁.setTop (mkF m 6 #[.val (.long q1), .second, .val (.long q2), .second, .val (.long (q1 / q2)), .second] [(.long q1)])) _
    refine XS.lloadN X0.here hx rfl (hb hby d9_6) rfl ?_
    show Steps p.tables e below (s₁.setTop (mkF m 7 #[.val (.long q1), .second, .val (.long q2), .second, .val (.long (q1 / q2)), .second] [(.long q2), (.long q1)])) _
    refine XS.lxor X0.here hx rfl (hb hby d9_7) rfl ?_
    show Steps p.tables e below (s₁.setTop (mkF m 8 #[.val (.long q1), .second, .val (.long q2), .second, .val (.long (q1 / q2)), .second] [(.long (q1 ^^^ q2))])) _
    refine XS.lconst X0.here hx rfl (hb hby d9_8) ?_
    show Steps p.tables e below (s₁.setTop (mkF m 9 #[.val (.long q1), .second, .val (.long q2), .second, .val (.long (q1 / q2)), .second] [(.long (0 : Int64)), (.long (q1 ^^^ q2))])) _
    refine XS.lcmp X0.here hx rfl (hb hby d9_9) rfl ?_
    show Steps p.tables e below (s₁.setTop (mkF m 10 #[.val (.long q1), .second, .val (.long q2), .second, .val (.long (q1 / q2)), .second] [(.int (lcmpW (q1 ^^^ q2) (0 : Int64)))])) _
    refine XS.ifNo X0.here hx rfl (hb hby d9_10) rfl ((if0 _ _).trans (tlt hc10).2.1) ?_
    show Steps p.tables e below (s₁.setTop (mkF m 13 #[.val (.long q1), .second, .val (.long q2), .second, .val (.long (q1 / q2)), .second] [])) _
    refine XS.lload X0.here hx rfl (hb hby d9_13) rfl ?_
    show Steps p.tables e below (s₁.setTop (mkF m 15 #[.val (.long q1), .second, .val (.long q2), .second, .val (.long (q1 / q2)), .second] [(.long (q1 / q2))])) _
    refine XS.lloadN X0.here hx rfl (hb hby d9_15) rfl ?_
    show Steps p.tables e below (s₁.setTop (mkF m 16 #[.val (.long q1), .second, .val (.long q2), .second, .val (.long (q1 / q2)), .second] [(.long q2), (.long (q1 / q2))])) _
    refine XS.lmul X0.here hx rfl (hb hby d9_16) rfl ?_
    show Steps p.tables e below (s₁.setTop (mkF m 17 #[.val (.long q1), .second, .val (.long q2), .second, .val (.long (q1 / q2)), .second] [(.long ((q1 / q2) * q2))])) _
    refine XS.lloadN X0.here hx rfl (hb hby d9_17) rfl ?_
    show Steps p.tables e below (s₁.setTop (mkF m 18 #[.val (.long q1), .second, .val (.long q2), .second, .val (.long (q1 / q2)), .second] [(.long q1), (.long ((q1 / q2) * q2))])) _
    refine XS.lcmp X0.here hx rfl (hb hby d9_18) rfl ?_
    show Steps p.tables e below (s₁.setTop (mkF m 19 #[.val (.long q1), .second, .val (.long q2), .second, .val (.long (q1 / q2)), .second] [(.int (lcmpW ((q1 / q2) * q2) q1))])) _
    refine XS.ifYes X0.here hx rfl (pc0 := 19) (pc' := 27) rfl (hb hby d9_19) rfl ((if0 _ _).trans (teq hc19).1) (by decide) (by decide) ?_
    show Steps p.tables e below (s₁.setTop (mkF m 27 #[.val (.long q1), .second, .val (.long q2), .second, .val (.long (q1 / q2)), .second] [])) _
    refine XS.lload X0.here hx rfl (hb hby d9_27) rfl ?_
    show Steps p.tables e below (s₁.setTop (mkF m 29 #[.val (.long q1), .second, .val (.long q2), .second, .val (.long (q1 / q2)), .second] [(.long (q1 / q2))])) _
    jvm_step X0.here [X0.here.top, hx, (hb hby d9_29), X0.method', Bd.returns, narrow]
    first | (intro acts; rw [hr _ acts rfl rfl rfl]) | rw [hr _ _ rfl rfl rfl]
    exact Steps.refl _
  · show own_Q (some (.long (q1 / q2))) h0 n0 _ s₁.heap _
    rw [e0]
    exact ⟨rfl, N0, rfl⟩
theorem d8_0 : decode jdk_29_method_48_code 0 = .ok (.lload_n 0, 1) := by decide +kernel
theorem d8_1 : decode jdk_29_method_48_code 1 = .ok (.iload_n 2, 1) := by decide +kernel
theorem d8_2 : decode jdk_29_method_48_code 2 = .ok (.i2l, 1) := by decide +kernel
theorem d8_3 : decode jdk_29_method_48_code 3 = .ok (.invokestatic 143, 3) := by decide +kernel
theorem d8_6 : decode jdk_29_method_48_code 6 = .ok (.lreturn, 1) := by decide +kernel
theorem pd_8_6 : parseMethodDescriptor "(JJ)J" = some ⟨[.long, .long], some .long⟩ := by decide +kernel
theorem ef_8 (m : MethodId) (x0 : Int64) (x1 : Int32) : entryFrame m #[(.long x0), (.int x1)] 3 = mkF m 0 #[.val (.long x0), .second, .val (.int x1)] [] := by first | (simp [entryFrame, mkF, argsToLocals, Value.category]; done) | rfl
abbrev M8 (l : Launch) (Z : State) (ws : List Jvm.Cond) (q1 : Int64) (p2 : Int32) (h0 : Heap) (n0 : Nat) (r : Option Value) : Prop := MetFree l (⟨"java/lang/Math", "floorDiv", "(JI)J"⟩ : MethodName) (head1 (Jvm.Cond.code (⟨"java/lang/Math", "floorDiv", "(JI)J"⟩ : MethodName) jdk_29_method_48_code 3 (some .long) :: ws) ({ frames := 1, cells := 0, slots := 0, locals := 17 } : Room)) (fun a U => a = #[(.long q1), (.int p2)] ∧ Z.Warmed39 U.vm ∧ U.heap = h0) (fun _ _ _ _ _ => True) (fun _ U o U' => ∃ v L, o = .returned v ∧ own_Q r h0 n0 v U'.heap L ∧ FrameEnd U o U' L ({ frames := 1, cells := 0, slots := 0, locals := 17 } : Room).cells ({ frames := 1, cells := 0, slots := 0, locals := 17 } : Room).slots)
set_option maxRecDepth 65536 in
set_option maxHeartbeats 40000000 in
theorem rm8 (l : Launch) (Z : State) (a0 : Array Value) (hw : ∀ d ∈ tables_1, d.before a0 Z = true) (ws : List Jvm.Cond) (q1 : Int64) (p2 : Int32) (r3 : Int64) (h0 : Heap) (n0 : Nat) (Z0 : n0 ≤ h0.size) (Hm3 : M9 l Z [] q1 (p2.toInt64) h0 n0 (some (.long r3))) :
    M8 l Z ws q1 p2 h0 n0 (some (.long r3)) := by
  refine MetFree.of_bodySF (Jvm.Free.JP.mathPlain rfl (by decide +kernel)) hisR ?_
  intro p e s m args below meth c s₁ Bd hml0 hP hK
  obtain ⟨rfl, hZ, hh⟩ := hP
  have hx := Bd.exec
  have hby := Bd.bytes
  have hml : c.maxLocals = 3 := hml0
  have hown : s.vm.findClass "java/lang/Math" = some m.cls := findClass_of_methodNamed Bd.named
  have hnm := (name_of_methodNamed Bd.named Bd.method).1
  have X0 : Stand p l e ({ frames := 1, cells := 0, slots := 0, locals := 17 } : Room) s m #[(.long q1), (.int p2)] below meth c s₁ [] 0 0 := Stand.of_body Bd
  have e0 : s₁.heap = h0 := by rw [← hh, Bd.state]; rfl
  have N0 := Fr.nil n0
  have pre0 : ∀ t, Steps p.tables e below (s₁.setTop (mkF m 0 #[.val (.long q1), .second, .val (.int p2)] [])) t → Steps p.tables e below (s₁.setTop (entryFrame m #[(.long q1), (.int p2)] 3)) t := fun t k => castTop (ef_8 m q1 p2) k
  obtain ⟨_, _, ⟨T3, L3, k3, n3⟩, -, X3, ⟨Lc3, hQ3, l3, y3, z3⟩, st3⟩ := Jvm.LawKit.callS X0 hx (y := (⟨"java/lang/Math", "floorDiv", "(JJ)J"⟩ : MethodName)) hown (mvT hZ (hw _ (List.mem_of_getElem? (i := 50) rfl))) (mvT hZ (hw _ (List.mem_of_getElem? (i := 51) rfl))) (mvT hZ (hw _ (List.mem_of_getElem? (i := 33) rfl))) (mvT hZ (hw _ (List.mem_of_getElem? (i := 52) rfl))) (by decide) (backOf (W := 0) Hm3 hZ (hw _ (List.mem_of_getElem? (i := 52) rfl)) (hw _ (List.mem_of_getElem? (i := 33) rfl)) (by decide) (by decide)) (g := (mkF m 3 #[.val (.long q1), .second, .val (.int p2)] [(.long (p2.toInt64)), (.long q1)])) rfl (by rw [hml]; rfl) (argsL := [(.long q1), (.long (p2.toInt64))]) (rest := []) (lenOf pd_8_6 rfl) rfl (by show 2 * 0 + _ ≤ _; exact Nat.le_of_eq rfl) (hb hby d8_3) (fun _ _ => ⟨rfl, e0, (by decide : 0 + 0 ≤ _), (by decide : 0 + 0 ≤ _)⟩)
  dsimp only [Pt.U, Pt.locs, Pt.cells, Pt.slots] at X3 l3 y3 z3 st3 hQ3
  subst l3 y3 z3
  obtain ⟨rfl, N3q, hh3⟩ := hQ3
  have N3 := Fr.app N0 N3q
  obtain ⟨fs, hr, hrun, hended, hW, hsame⟩ := X3.leave (v := some (.long r3)) (fun h => by rw [Bd.returns] at h; cases h)
  refine ⟨_, _, pre0 _ ?_, hrun, hended, _, _, rfl, ?_, ⟨_, rfl⟩, hW, hsame.mono (by decide) (by decide)⟩
  · show Steps p.tables e below (s₁.setTop (mkF m 0 #[.val (.long q1), .second, .val (.int p2)] [])) _
    refine XS.lloadN X0.here hx rfl (hb hby d8_0) rfl ?_
    show Steps p.tables e below (s₁.setTop (mkF m 1 #[.val (.long q1), .second, .val (.int p2)] [(.long q1)])) _
    refine XS.iloadN X0.here hx rfl (hb hby d8_1) rfl ?_
    show Steps p.tables e below (s₁.setTop (mkF m 2 #[.val (.long q1), .second, .val (.int p2)] [(.int p2), (.long q1)])) _
    refine XS.i2l X0.here hx rfl (hb hby d8_2) rfl ?_
    show Steps p.tables e below (s₁.setTop (mkF m 3 #[.val (.long q1), .second, .val (.int p2)] [(.long (p2.toInt64)), (.long q1)])) _
    refine st3 _ ?_
    show Steps p.tables e below (T3.setTop (mkF m 6 #[.val (.long q1), .second, .val (.int p2)] [(.long r3)])) _
    jvm_step X3.here [X3.here.top, hx, (hb hby d8_6), X3.method', Bd.returns, narrow]
    first | (intro acts; rw [hr _ acts rfl rfl rfl]) | rw [hr _ _ rfl rfl rfl]
    exact Steps.refl _
  · show own_Q (some (.long r3)) h0 n0 _ T3.heap _
    rw [hh3]
    exact ⟨rfl, N3, rfl⟩
theorem d10_0 : decode jdk_29_method_43_code 0 = .ok (.lload_n 0, 1) := by decide +kernel
theorem d10_1 : decode jdk_29_method_43_code 1 = .ok (.l2i, 1) := by decide +kernel
theorem d10_2 : decode jdk_29_method_43_code 2 = .ok (.i2l, 1) := by decide +kernel
theorem d10_3 : decode jdk_29_method_43_code 3 = .ok (.lload_n 0, 1) := by decide +kernel
theorem d10_4 : decode jdk_29_method_43_code 4 = .ok (.lcmp, 1) := by decide +kernel
theorem d10_5 : decode jdk_29_method_43_code 5 = .ok (.ifCond .eq 13, 3) := by decide +kernel
theorem d10_18 : decode jdk_29_method_43_code 18 = .ok (.lload_n 0, 1) := by decide +kernel
theorem d10_19 : decode jdk_29_method_43_code 19 = .ok (.l2i, 1) := by decide +kernel
theorem d10_20 : decode jdk_29_method_43_code 20 = .ok (.ireturn, 1) := by decide +kernel
theorem ef_10 (m : MethodId) (x0 : Int64) : entryFrame m #[(.long x0)] 2 = mkF m 0 #[.val (.long x0), .second] [] := by first | (simp [entryFrame, mkF, argsToLocals, Value.category]; done) | rfl
abbrev M10 (l : Launch) (Z : State) (ws : List Jvm.Cond) (q1 : Int64) (h0 : Heap) (n0 : Nat) (r : Option Value) : Prop := MetFree l (⟨"java/lang/Math", "toIntExact", "(J)I"⟩ : MethodName) (head1 (Jvm.Cond.code (⟨"java/lang/Math", "toIntExact", "(J)I"⟩ : MethodName) jdk_29_method_43_code 2 (some .int) :: ws) ({ frames := 0, cells := 0, slots := 0, locals := 0 } : Room)) (fun a U => a = #[(.long q1)] ∧ Z.Warmed39 U.vm ∧ U.heap = h0) (fun _ _ _ _ _ => True) (fun _ U o U' => ∃ v L, o = .returned v ∧ own_Q r h0 n0 v U'.heap L ∧ FrameEnd U o U' L ({ frames := 0, cells := 0, slots := 0, locals := 0 } : Room).cells ({ frames := 0, cells := 0, slots := 0, locals := 0 } : Room).slots)
set_option maxRecDepth 65536 in
set_option maxHeartbeats 40000000 in
theorem rm10 (l : Launch) (Z : State) (a0 : Array Value) (hw : ∀ d ∈ tables_1, d.before a0 Z = true) (ws : List Jvm.Cond) (q1 : Int64) (h0 : Heap) (n0 : Nat) (Z0 : n0 ≤ h0.size) (hc5 : (lcmpW ((q1.toInt32).toInt64) q1) = (0 : Int32)) :
    M10 l Z ws q1 h0 n0 (some (.int (q1.toInt32))) := by
  refine MetFree.of_bodySF (Jvm.Free.JP.mathPlain rfl (by decide +kernel)) hisR ?_
  intro p e s m args below meth c s₁ Bd hml0 hP hK
  obtain ⟨rfl, hZ, hh⟩ := hP
  have hx := Bd.exec
  have hby := Bd.bytes
  have hml : c.maxLocals = 2 := hml0
  have hown : s.vm.findClass "java/lang/Math" = some m.cls := findClass_of_methodNamed Bd.named
  have hnm := (name_of_methodNamed Bd.named Bd.method).1
  have X0 : Stand p l e ({ frames := 0, cells := 0, slots := 0, locals := 0 } : Room) s m #[(.long q1)] below meth c s₁ [] 0 0 := Stand.of_body Bd
  have e0 : s₁.heap = h0 := by rw [← hh, Bd.state]; rfl
  have N0 := Fr.nil n0
  have pre0 : ∀ t, Steps p.tables e below (s₁.setTop (mkF m 0 #[.val (.long q1), .second] [])) t → Steps p.tables e below (s₁.setTop (entryFrame m #[(.long q1)] 2)) t := fun t k => castTop (ef_10 m q1) k
  obtain ⟨fs, hr, hrun, hended, hW, hsame⟩ := X0.leave (v := some (.int (q1.toInt32))) (fun h => by rw [Bd.returns] at h; cases h)
  refine ⟨_, _, pre0 _ ?_, hrun, hended, _, _, rfl, ?_, ⟨_, rfl⟩, hW, hsame.mono (by decide) (by decide)⟩
  · show Steps p.tables e below (s₁.setTop (mkF m 0 #[.val (.long q1), .second] [])) _
    refine XS.lloadN X0.here hx rfl (hb hby d10_0) rfl ?_
    show Steps p.tables e below (s₁.setTop (mkF m 1 #[.val (.long q1), .second] [(.long q1)])) _
    refine XS.l2i X0.here hx rfl (hb hby d10_1) rfl ?_
    show Steps p.tables e below (s₁.setTop (mkF m 2 #[.val (.long q1), .second] [(.int (q1.toInt32))])) _
    refine XS.i2l X0.here hx rfl (hb hby d10_2) rfl ?_
    show Steps p.tables e below (s₁.setTop (mkF m 3 #[.val (.long q1), .second] [(.long ((q1.toInt32).toInt64))])) _
    refine XS.lloadN X0.here hx rfl (hb hby d10_3) rfl ?_
    show Steps p.tables e below (s₁.setTop (mkF m 4 #[.val (.long q1), .second] [(.long q1), (.long ((q1.toInt32).toInt64))])) _
    refine XS.lcmp X0.here hx rfl (hb hby d10_4) rfl ?_
    show Steps p.tables e below (s₁.setTop (mkF m 5 #[.val (.long q1), .second] [(.int (lcmpW ((q1.toInt32).toInt64) q1))])) _
    refine XS.ifYes X0.here hx rfl (pc0 := 5) (pc' := 18) rfl (hb hby d10_5) rfl ((if0 _ _).trans (teq hc5).1) (by decide) (by decide) ?_
    show Steps p.tables e below (s₁.setTop (mkF m 18 #[.val (.long q1), .second] [])) _
    refine XS.lloadN X0.here hx rfl (hb hby d10_18) rfl ?_
    show Steps p.tables e below (s₁.setTop (mkF m 19 #[.val (.long q1), .second] [(.long q1)])) _
    refine XS.l2i X0.here hx rfl (hb hby d10_19) rfl ?_
    show Steps p.tables e below (s₁.setTop (mkF m 20 #[.val (.long q1), .second] [(.int (q1.toInt32))])) _
    exact retI X0 hx Bd.returns (hb hby d10_20) hr
  · show own_Q (some (.int (q1.toInt32))) h0 n0 _ s₁.heap _
    rw [e0]
    exact ⟨rfl, N0, rfl⟩
theorem d12_0 : decode jdk_29_method_52_code 0 = .ok (.lload_n 0, 1) := by decide +kernel
theorem d12_1 : decode jdk_29_method_52_code 1 = .ok (.lload_n 2, 1) := by decide +kernel
theorem d12_2 : decode jdk_29_method_52_code 2 = .ok (.lrem, 1) := by decide +kernel
theorem d12_3 : decode jdk_29_method_52_code 3 = .ok (.lstore 4, 2) := by decide +kernel
theorem d12_5 : decode jdk_29_method_52_code 5 = .ok (.lload_n 0, 1) := by decide +kernel
theorem d12_6 : decode jdk_29_method_52_code 6 = .ok (.lload_n 2, 1) := by decide +kernel
theorem d12_7 : decode jdk_29_method_52_code 7 = .ok (.lxor, 1) := by decide +kernel
theorem d12_8 : decode jdk_29_method_52_code 8 = .ok (.lconst 0, 1) := by decide +kernel
theorem d12_9 : decode jdk_29_method_52_code 9 = .ok (.lcmp, 1) := by decide +kernel
theorem d12_10 : decode jdk_29_method_52_code 10 = .ok (.ifCond .ge 15, 3) := by decide +kernel
theorem d12_25 : decode jdk_29_method_52_code 25 = .ok (.lload 4, 2) := by decide +kernel
theorem d12_27 : decode jdk_29_method_52_code 27 = .ok (.lreturn, 1) := by decide +kernel
theorem ef_12 (m : MethodId) (x0 : Int64) (x1 : Int64) : entryFrame m #[(.long x0), (.long x1)] 6 = mkF m 0 #[.val (.long x0), .second, .val (.long x1), .second, .unset, .unset] [] := by first | (simp [entryFrame, mkF, argsToLocals, Value.category]; done) | rfl
abbrev M12 (l : Launch) (Z : State) (ws : List Jvm.Cond) (q1 : Int64) (q2 : Int64) (h0 : Heap) (n0 : Nat) (r : Option Value) : Prop := MetFree l (⟨"java/lang/Math", "floorMod", "(JJ)J"⟩ : MethodName) (head1 (Jvm.Cond.code (⟨"java/lang/Math", "floorMod", "(JJ)J"⟩ : MethodName) jdk_29_method_52_code 6 (some .long) :: ws) ({ frames := 0, cells := 0, slots := 0, locals := 0 } : Room)) (fun a U => a = #[(.long q1), (.long q2)] ∧ Z.Warmed39 U.vm ∧ U.heap = h0) (fun _ _ _ _ _ => True) (fun _ U o U' => ∃ v L, o = .returned v ∧ own_Q r h0 n0 v U'.heap L ∧ FrameEnd U o U' L ({ frames := 0, cells := 0, slots := 0, locals := 0 } : Room).cells ({ frames := 0, cells := 0, slots := 0, locals := 0 } : Room).slots)
set_option maxRecDepth 65536 in
set_option maxHeartbeats 40000000 in
theorem rm12_t (l : Launch) (Z : State) (a0 : Array Value) (hw : ∀ d ∈ tables_1, d.before a0 Z = true) (ws : List Jvm.Cond) (q1 : Int64) (q2 : Int64) (h0 : Heap) (n0 : Nat) (Z0 : n0 ≤ h0.size) (hnz2 : ¬ (q2 = (0 : Int64))) (hc10 : ¬ ((lcmpW (q1 ^^^ q2) (0 : Int64)) < (0 : Int32))) :
    M12 l Z ws q1 q2 h0 n0 (some (.long (own_lrem q1 q2))) := by
  refine MetFree.of_bodySF (Jvm.Free.JP.mathPlain rfl (by decide +kernel)) hisR ?_
  intro p e s m args below meth c s₁ Bd hml0 hP hK
  obtain ⟨rfl, hZ, hh⟩ := hP
  have hx := Bd.exec
  have hby := Bd.bytes
  have hml : c.maxLocals = 6 := hml0
  have hown : s.vm.findClass "java/lang/Math" = some m.cls := findClass_of_methodNamed Bd.named
  have hnm := (name_of_methodNamed Bd.named Bd.method).1
  have X0 : Stand p l e ({ frames := 0, cells := 0, slots := 0, locals := 0 } : Room) s m #[(.long q1), (.long q2)] below meth c s₁ [] 0 0 := Stand.of_body Bd
  have e0 : s₁.heap = h0 := by rw [← hh, Bd.state]; rfl
  have N0 := Fr.nil n0
  have pre0 : ∀ t, Steps p.tables e below (s₁.setTop (mkF m 0 #[.val (.long q1), .second, .val (.long q2), .second, .unset, .unset] [])) t → Steps p.tables e below (s₁.setTop (entryFrame m #[(.long q1), (.long q2)] 6)) t := fun t k => castTop (ef_12 m q1 q2) k
  obtain ⟨fs, hr, hrun, hended, hW, hsame⟩ := X0.leave (v := some (.long (own_lrem q1 q2))) (fun h => by rw [Bd.returns] at h; cases h)
  refine ⟨_, _, pre0 _ ?_, hrun, hended, _, _, rfl, ?_, ⟨_, rfl⟩, hW, hsame.mono (by decide) (by decide)⟩
  · show Steps p.tables e below (s₁.setTop (mkF m 0 #[.val (.long q1), .second, .val (.long q2), .second, .unset, .unset] [])) _
    refine XS.lloadN X0.here hx rfl (hb hby d12_0) rfl ?_
    show Steps p.tables e below (s₁.setTop (mkF m 1 #[.val (.long q1), .second, .val (.long q2), .second, .unset, .unset] [(.long q1)])) _
    refine XS.lloadN X0.here hx rfl (hb hby d12_1) rfl ?_
    show Steps p.tables e below (s₁.setTop (mkF m 2 #[.val (.long q1), .second, .val (.long q2), .second, .unset, .unset] [(.long q2), (.long q1)])) _
    refine XS.lrem X0.here hx rfl (hb hby d12_2) rfl hnz2 ?_
    show Steps p.tables e below (s₁.setTop (mkF m 3 #[.val (.long q1), .second, .val (.long q2), .second, .unset, .unset] [(.long (own_lrem q1 q2))])) _
    refine XS.lstore X0.here hx rfl (hb hby d12_3) rfl (l' := #[.val (.long q1), .second, .val (.long q2), .second, .val (.long (own_lrem q1 q2)), .second]) rfl ?_
    show Steps p.tables e below (s₁.setTop (mkF m 5 #[.val (.long q1), .second, .val (.long q2), .second, .val (.long (own_lrem q1 q2)), .second] [])) _
    refine XS.lloadN X0.here hx rfl (hb hby d12_5) rfl ?_
    show Steps p.tables e below (s₁.setTop (mkF m 6 #[.val (.long q1), .second, .val (.long q2), .second, .val (.long (own_lrem q1 q2)), .second] [(.long q1)])) _
    refine XS.lloadN X0.here hx rfl (hb hby d12_6) rfl ?_
    show Steps p.tables e below (s₁.setTop (mkF m 7 #[.val (.long q1), .second, .val (.long q2), .second, .val (.long (own_lrem q1 q2)), .second] [(.long q2), (.long q1)])) _
    refine XS.lxor X0.here hx rfl (hb hby d12_7) rfl ?_
    show Steps p.tables e below (s₁.setTop (mkF m 8 #[.val (.long q1), .second, .val (.long q2), .second, .val (.long (own_lrem q1 q2)), .second] [(.long (q1 ^^^ q2))])) _
    refine XS.lconst X0.here hx rfl (hb hby d12_8) ?_
    show Steps p.tables e below (s₁.setTop (mkF m 9 #[.val (.long q1), .second, .val (.long q2), .second, .val (.long (own_lrem q1 q2)), .second] [(.long (0 : Int64)), (.long (q1 ^^^ q2))])) _
    refine XS.lcmp X0.here hx rfl (hb hby d12_9) rfl ?_
    show Steps p.tables e below (s₁.setTop (mkF m 10 #[.val (.long q1), .second, .val (.long q2), .second, .val (.long (own_lrem q1 q2)), .second] [(.int (lcmpW (q1 ^^^ q2) (0 : Int64)))])) _
    refine XS.ifYes X0.here hx rfl (pc0 := 10) (pc' := 25) rfl (hb hby d12_10) rfl ((if0 _ _).trans (flt hc10).2.1) (by decide) (by decide) ?_
    show Steps p.tables e below (s₁.setTop (mkF m 25 #[.val (.long q1), .second, .val (.long q2), .second, .val (.long (own_lrem q1 q2)), .second] [])) _
    refine XS.lload X0.here hx rfl (hb hby d12_25) rfl ?_
    show Steps p.tables e below (s₁.setTop (mkF m 27 #[.val (.long q1), .second, .val (.long q2), .second, .val (.long (own_lrem q1 q2)), .second] [(.long (own_lrem q1 q2))])) _
    jvm_step X0.here [X0.here.top, hx, (hb hby d12_27), X0.method', Bd.returns, narrow]
    first | (intro acts; rw [hr _ acts rfl rfl rfl]) | rw [hr _ _ rfl rfl rfl]
    exact Steps.refl _
  · show own_Q (some (.long (own_lrem q1 q2))) h0 n0 _ s₁.heap _
    rw [e0]
    exact ⟨rfl, N0, rfl⟩
theorem d12_13 : decode jdk_29_method_52_code 13 = .ok (.lload 4, 2) := by decide +kernel
theorem d12_15 : decode jdk_29_method_52_code 15 = .ok (.lconst 0, 1) := by decide +kernel
theorem d12_16 : decode jdk_29_method_52_code 16 = .ok (.lcmp, 1) := by decide +kernel
theorem d12_17 : decode jdk_29_method_52_code 17 = .ok (.ifCond .eq 8, 3) := by decide +kernel
theorem d12_20 : decode jdk_29_method_52_code 20 = .ok (.lload 4, 2) := by decide +kernel
theorem d12_22 : decode jdk_29_method_52_code 22 = .ok (.lload_n 2, 1) := by decide +kernel
theorem d12_23 : decode jdk_29_method_52_code 23 = .ok (.ladd, 1) := by decide +kernel
theorem d12_24 : decode jdk_29_method_52_code 24 = .ok (.lreturn, 1) := by decide +kernel
set_option maxRecDepth 65536 in
set_option maxHeartbeats 40000000 in
theorem rm12_ff (l : Launch) (Z : State) (a0 : Array Value) (hw : ∀ d ∈ tables_1, d.before a0 Z = true) (ws : List Jvm.Cond) (q1 : Int64) (q2 : Int64) (h0 : Heap) (n0 : Nat) (Z0 : n0 ≤ h0.size) (hnz2 : ¬ (q2 = (0 : Int64))) (hc10 : (lcmpW (q1 ^^^ q2) (0 : Int64)) < (0 : Int32)) (hc17 : ¬ ((lcmpW (own_lrem q1 q2) (0 : Int64)) = (0 : Int32))) :
    M12 l Z ws q1 q2 h0 n0 (some (.long ((own_lrem q1 q2) + q2))) := by
  refine MetFree.of_bodySF (Jvm.Free.JP.mathPlain rfl (by decide +kernel)) hisR ?_
  intro p e s m args below meth c s₁ Bd hml0 hP hK
  obtain ⟨rfl, hZ, hh⟩ := hP
  have hx := Bd.exec
  have hby := Bd.bytes
  have hml : c.maxLocals = 6 := hml0
  have hown : s.vm.findClass "java/lang/Math" = some m.cls := findClass_of_methodNamed Bd.named
  have hnm := (name_of_methodNamed Bd.named Bd.method).1
  have X0 : Stand p l e ({ frames := 0, cells := 0, slots := 0, locals := 0 } : Room) s m #[(.long q1), (.long q2)] below meth c s₁ [] 0 0 := Stand.of_body Bd
  have e0 : s₁.heap = h0 := by rw [← hh, Bd.state]; rfl
  have N0 := Fr.nil n0
  have pre0 : ∀ t, Steps p.tables e below (s₁.setTop (mkF m 0 #[.val (.long q1), .second, .val (.long q2), .second, .unset, .unset] [])) t → Steps p.tables e below (s₁.setTop (entryFrame m #[(.long q1), (.long q2)] 6)) t := fun t k => castTop (ef_12 m q1 q2) k
  obtain ⟨fs, hr, hrun, hended, hW, hsame⟩ := X0.leave (v := some (.long ((own_lrem q1 q2) + q2))) (fun h => by rw [Bd.returns] at h; cases h)
  refine ⟨_, _, pre0 _ ?_, hrun, hended, _, _, rfl, ?_, ⟨_, rfl⟩, hW, hsame.mono (by decide) (by decide)⟩
  · show Steps p.tables e below (s₁.setTop (mkF m 0 #[.val (.long q1), .second, .val (.long q2), .second, .unset, .unset] [])) _
    refine XS.lloadN X0.here hx rfl (hb hby d12_0) rfl ?_
    show Steps p.tables e below (s₁.setTop (mkF m 1 #[.val (.long q1), .second, .val (.long q2), .second, .unset, .unset] [(.long q1)])) _
    refine XS.lloadN X0.here hx rfl (hb hby d12_1) rfl ?_
    show Steps p.tables e below (s₁.setTop (mkF m 2 #[.val (.long q1), .second, .val (.long q2), .second, .unset, .unset] [(.long q2), (.long q1)])) _
    refine XS.lrem X0.here hx rfl (hb hby d12_2) rfl hnz2 ?_
    show Steps p.tables e below (s₁.setTop (mkF m 3 #[.val (.long q1), .second, .val (.long q2), .second, .unset, .unset] [(.long (own_lrem q1 q2))])) _
    refine XS.lstore X0.here hx rfl (hb hby d12_3) rfl (l' := #[.val (.long q1), .second, .val (.long q2), .second, .val (.long (own_lrem q1 q2)), .second]) rfl ?_
    show Steps p.tables e below (s₁.setTop (mkF m 5 #[.val (.long q1), .second, .val (.long q2), .second, .val (.long (own_lrem q1 q2)), .second] [])) _
    refine XS.lloadN X0.here hx rfl (hb hby d12_5) rfl ?_
    show Steps p.tables e below (s₁.setTop (mkF m 6 #[.val (.long q1), .second, .val (.long q2), .second, .val (.long (own_lrem q1 q2)), .second] [(.long q1)])) _
    refine XS.lloadN X0.here hx rfl (hb hby d12_6) rfl ?_
    show Steps p.tables e below (s₁.setTop (mkF m 7 #[.val (.long q1), .second, .val (.long q2), .second, .val (.long (own_lrem q1 q2)), .second] [(.long q2), (.long q1)])) _
    refine XS.lxor X0.here hx rfl (hb hby d12_7) rfl ?_
    show Steps p.tables e below (s₁.setTop (mkF m 8 #[.val (.long q1), .second, .val (.long q2), .second, .val (.long (own_lrem q1 q2)), .second] [(.long (q1 ^^^ q2))])) _
    refine XS.lconst X0.here hx rfl (hb hby d12_8) ?_
    show Steps p.tables e below (s₁.setTop (mkF m 9 #[.val (.long q1), .second, .val (.long q2), .second, .val (.long (own_lrem q1 q2)), .second] [(.long (0 : Int64)), (.long (q1 ^^^ q2))])) _
    refine XS.lcmp X0.here hx rfl (hb hby d12_9) rfl ?_
    show Steps p.tables e below (s₁.setTop (mkF m 10 #[.val (.long q1), .second, .val (.long q2), .second, .val (.long (own_lrem q1 q2)), .second] [(.int (lcmpW (q1 ^^^ q2) (0 : Int64)))])) _
    refine XS.ifNo X0.here hx rfl (hb hby d12_10) rfl ((if0 _ _).trans (tlt hc10).2.1) ?_
    show Steps p.tables e below (s₁.setTop (mkF m 13 #[.val (.long q1), .second, .val (.long q2), .second, .val (.long (own_lrem q1 q2)), .second] [])) _
    refine XS.lload X0.here hx rfl (hb hby d12_13) rfl ?_
    show Steps p.tables e below (s₁.setTop (mkF m 15 #[.val (.long q1), .second, .val (.long q2), .second, .val (.long (own_lrem q1 q2)), .second] [(.long (own_lrem q1 q2))])) _
    refine XS.lconst X0.here hx rfl (hb hby d12_15) ?_
    show Steps p.tables e below (s₁.setTop (mkF m 16 #[.val (.long q1), .second, .val (.long q2), .second, .val (.long (own_lrem q1 q2)), .second] [(.long (0 : Int64)), (.long (own_lrem q1 q2))])) _
    refine XS.lcmp X0.here hx rfl (hb hby d12_16) rfl ?_
    show Steps p.tables e below (s₁.setTop (mkF m 17 #[.val (.long q1), .second, .val (.long q2), .second, .val (.long (own_lrem q1 q2)), .second] [(.int (lcmpW (own_lrem q1 q2) (0 : Int64)))])) _
    refine XS.ifNo X0.here hx rfl (hb hby d12_17) rfl ((if0 _ _).trans (feq hc17).1) ?_
    show Steps p.tables e below (s₁.setTop (mkF m 20 #[.val (.long q1), .second, .val (.long q2), .second, .val (.long (own_lrem q1 q2)), .second] [])) _
    refine XS.lload X0.here hx rfl (hb hby d12_20) rfl ?_
    show Steps p.tables e below (s₁.setTop (mkF m 22 #[.val (.long q1), .second, .val (.long q2), .second, .val (.long (own_lrem q1 q2)), .second] [(.long (own_lrem q1 q2))])) _
    refine XS.lloadN X0.here hx rfl (hb hby d12_22) rfl ?_
    show Steps p.tables e below (s₁.setTop (mkF m 23 #[.val (.long q1), .second, .val (.long q2), .second, .val (.long (own_lrem q1 q2)), .second] [(.long q2), (.long (own_lrem q1 q2))])) _
    refine XS.ladd X0.here hx rfl (hb hby d12_23) rfl ?_
    show Steps p.tables e below (s₁.setTop (mkF m 24 #[.val (.long q1), .second, .val (.long q2), .second, .val (.long (own_lrem q1 q2)), .second] [(.long ((own_lrem q1 q2) + q2))])) _
    jvm_step X0.here [X0.here.top, hx, (hb hby d12_24), X0.method', Bd.returns, narrow]
    first | (intro acts; rw [hr _ acts rfl rfl rfl]) | rw [hr _ _ rfl rfl rfl]
    exact Steps.refl _
  · show own_Q (some (.long ((own_lrem q1 q2) + q2))) h0 n0 _ s₁.heap _
    rw [e0]
    exact ⟨rfl, N0, rfl⟩
set_option maxRecDepth 65536 in
set_option maxHeartbeats 40000000 in
theorem rm12_ft (l : Launch) (Z : State) (a0 : Array Value) (hw : ∀ d ∈ tables_1, d.before a0 Z = true) (ws : List Jvm.Cond) (q1 : Int64) (q2 : Int64) (h0 : Heap) (n0 : Nat) (Z0 : n0 ≤ h0.size) (hnz2 : ¬ (q2 = (0 : Int64))) (hc10 : (lcmpW (q1 ^^^ q2) (0 : Int64)) < (0 : Int32)) (hc17 : (lcmpW (own_lrem q1 q2) (0 : Int64)) = (0 : Int32)) :
    M12 l Z ws q1 q2 h0 n0 (some (.long (own_lrem q1 q2))) := by
  refine MetFree.of_bodySF (Jvm.Free.JP.mathPlain rfl (by decide +kernel)) hisR ?_
  intro p e s m args below meth c s₁ Bd hml0 hP hK
  obtain ⟨rfl, hZ, hh⟩ := hP
  have hx := Bd.exec
  have hby := Bd.bytes
  have hml : c.maxLocals = 6 := hml0
  have hown : s.vm.findClass "java/lang/Math" = some m.cls := findClass_of_methodNamed Bd.named
  have hnm := (name_of_methodNamed Bd.named Bd.method).1
  have X0 : Stand p l e ({ frames := 0, cells := 0, slots := 0, locals := 0 } : Room) s m #[(.long q1), (.long q2)] below meth c s₁ [] 0 0 := Stand.of_body Bd
  have e0 : s₁.heap = h0 := by rw [← hh, Bd.state]; rfl
  have N0 := Fr.nil n0
  have pre0 : ∀ t, Steps p.tables e below (s₁.setTop (mkF m 0 #[.val (.long q1), .second, .val (.long q2), .second, .unset, .unset] [])) t → Steps p.tables e below (s₁.setTop (entryFrame m #[(.long q1), (.long q2)] 6)) t := fun t k => castTop (ef_12 m q1 q2) k
  obtain ⟨fs, hr, hrun, hended, hW, hsame⟩ := X0.leave (v := some (.long (own_lrem q1 q2))) (fun h => by rw [Bd.returns] at h; cases h)
  refine ⟨_, _, pre0 _ ?_, hrun, hended, _, _, rfl, ?_, ⟨_, rfl⟩, hW, hsame.mono (by decide) (by decide)⟩
  · show Steps p.tables e below (s₁.setTop (mkF m 0 #[.val (.long q1), .second, .val (.long q2), .second, .unset, .unset] [])) _
    refine XS.lloadN X0.here hx rfl (hb hby d12_0) rfl ?_
    show Steps p.tables e below (s₁.setTop (mkF m 1 #[.val (.long q1), .second, .val (.long q2), .second, .unset, .unset] [(.long q1)])) _
    refine XS.lloadN X0.here hx rfl (hb hby d12_1) rfl ?_
    show Steps p.tables e below (s₁.setTop (mkF m 2 #[.val (.long q1), .second, .val (.long q2), .second, .unset, .unset] [(.long q2), (.long q1)])) _
    refine XS.lrem X0.here hx rfl (hb hby d12_2) rfl hnz2 ?_
    show Steps p.tables e below (s₁.setTop (mkF m 3 #[.val (.long q1), .second, .val (.long q2), .second, .unset, .unset] [(.long (own_lrem q1 q2))])) _
    refine XS.lstore X0.here hx rfl (hb hby d12_3) rfl (l' := #[.val (.long q1), .second, .val (.long q2), .second, .val (.long (own_lrem q1 q2)), .second]) rfl ?_
    show Steps p.tables e below (s₁.setTop (mkF m 5 #[.val (.long q1), .second, .val (.long q2), .second, .val (.long (own_lrem q1 q2)), .second] [])) _
    refine XS.lloadN X0.here hx rfl (hb hby d12_5) rfl ?_
    show Steps p.tables e below (s₁.setTop (mkF m 6 #[.val (.long q1), .second, .val (.long q2), .second, .val (.long (own_lrem q1 q2)), .second] [(.long q1)])) _
    refine XS.lloadN X0.here hx rfl (hb hby d12_6) rfl ?_
    show Steps p.tables e below (s₁.setTop (mkF m 7 #[.val (.long q1), .second, .val (.long q2), .second, .val (.long (own_lrem q1 q2)), .second] [(.long q2), (.long q1)])) _
    refine XS.lxor X0.here hx rfl (hb hby d12_7) rfl ?_
    show Steps p.tables e below (s₁.setTop (mkF m 8 #[.val (.long q1), .second, .val (.long q2), .second, .val (.long (own_lrem q1 q2)), .second] [(.long (q1 ^^^ q2))])) _
    refine XS.lconst X0.here hx rfl (hb hby d12_8) ?_
    show Steps p.tables e below (s₁.setTop (mkF m 9 #[.val (.long q1), .second, .val (.long q2), .second, .val (.long (own_lrem q1 q2)), .second] [(.long (0 : Int64)), (.long (q1 ^^^ q2))])) _
    refine XS.lcmp X0.here hx rfl (hb hby d12_9) rfl ?_
    show Steps p.tables e below (s₁.setTop (mkF m 10 #[.val (.long q1), .second, .val (.long q2), .second, .val (.long (own_lrem q1 q2)), .second] [(.int (lcmpW (q1 ^^^ q2) (0 : Int64)))])) _
    refine XS.ifNo X0.here hx rfl (hb hby d12_10) rfl ((if0 _ _).trans (tlt hc10).2.1) ?_
    show Steps p.tables e below (s₁.setTop (mkF m 13 #[.val (.long q1), .second, .val (.long q2), .second, .val (.long (own_lrem q1 q2)), .second] [])) _
    refine XS.lload X0.here hx rfl (hb hby d12_13) rfl ?_
    show Steps p.tables e below (s₁.setTop (mkF m 15 #[.val (.long q1), .second, .val (.long q2), .second, .val (.long (own_lrem q1 q2)), .second] [(.long (own_lrem q1 q2))])) _
    refine XS.lconst X0.here hx rfl (hb hby d12_15) ?_
    show Steps p.tables e below (s₁.setTop (mkF m 16 #[.val (.long q1), .second, .val (.long q2), .second, .val (.long (own_lrem q1 q2)), .second] [(.long (0 : Int64)), (.long (own_lrem q1 q2))])) _
    refine XS.lcmp X0.here hx rfl (hb hby d12_16) rfl ?_
    show Steps p.tables e below (s₁.setTop (mkF m 17 #[.val (.long q1), .second, .val (.long q2), .second, .val (.long (own_lrem q1 q2)), .second] [(.int (lcmpW (own_lrem q1 q2) (0 : Int64)))])) _
    refine XS.ifYes X0.here hx rfl (pc0 := 17) (pc' := 25) rfl (hb hby d12_17) rfl ((if0 _ _).trans (teq hc17).1) (by decide) (by decide) ?_
    show Steps p.tables e below (s₁.setTop (mkF m 25 #[.val (.long q1), .second, .val (.long q2), .second, .val (.long (own_lrem q1 q2)), .second] [])) _
    refine XS.lload X0.here hx rfl (hb hby d12_25) rfl ?_
    show Steps p.tables e below (s₁.setTop (mkF m 27 #[.val (.long q1), .second, .val (.long q2), .second, .val (.long (own_lrem q1 q2)), .second] [(.long (own_lrem q1 q2))])) _
    jvm_step X0.here [X0.here.top, hx, (hb hby d12_27), X0.method', Bd.returns, narrow]
    first | (intro acts; rw [hr _ acts rfl rfl rfl]) | rw [hr _ _ rfl rfl rfl]
    exact Steps.refl _
  · show own_Q (some (.long (own_lrem q1 q2))) h0 n0 _ s₁.heap _
    rw [e0]
    exact ⟨rfl, N0, rfl⟩
theorem d11_0 : decode jdk_29_method_51_code 0 = .ok (.lload_n 0, 1) := by decide +kernel
theorem d11_1 : decode jdk_29_method_51_code 1 = .ok (.iload_n 2, 1) := by decide +kernel
theorem d11_2 : decode jdk_29_method_51_code 2 = .ok (.i2l, 1) := by decide +kernel
theorem d11_3 : decode jdk_29_method_51_code 3 = .ok (.invokestatic 146, 3) := by decide +kernel
theorem d11_6 : decode jdk_29_method_51_code 6 = .ok (.l2i, 1) := by decide +kernel
theorem d11_7 : decode jdk_29_method_51_code 7 = .ok (.ireturn, 1) := by decide +kernel
theorem pd_11_6 : parseMethodDescriptor "(JJ)J" = some ⟨[.long, .long], some .long⟩ := by decide +kernel
theorem ef_11 (m : MethodId) (x0 : Int64) (x1 : Int32) : entryFrame m #[(.long x0), (.int x1)] 3 = mkF m 0 #[.val (.long x0), .second, .val (.int x1)] [] := by first | (simp [entryFrame, mkF, argsToLocals, Value.category]; done) | rfl
abbrev M11 (l : Launch) (Z : State) (ws : List Jvm.Cond) (q1 : Int64) (p2 : Int32) (h0 : Heap) (n0 : Nat) (r : Option Value) : Prop := MetFree l (⟨"java/lang/Math", "floorMod", "(JI)I"⟩ : MethodName) (head1 (Jvm.Cond.code (⟨"java/lang/Math", "floorMod", "(JI)I"⟩ : MethodName) jdk_29_method_51_code 3 (some .int) :: ws) ({ frames := 1, cells := 0, slots := 0, locals := 17 } : Room)) (fun a U => a = #[(.long q1), (.int p2)] ∧ Z.Warmed39 U.vm ∧ U.heap = h0) (fun _ _ _ _ _ => True) (fun _ U o U' => ∃ v L, o = .returned v ∧ own_Q r h0 n0 v U'.heap L ∧ FrameEnd U o U' L ({ frames := 1, cells := 0, slots := 0, locals := 17 } : Room).cells ({ frames := 1, cells := 0, slots := 0, locals := 17 } : Room).slots)
set_option maxRecDepth 65536 in
set_option maxHeartbeats 40000000 in
theorem rm11 (l : Launch) (Z : State) (a0 : Array Value) (hw : ∀ d ∈ tables_1, d.before a0 Z = true) (ws : List Jvm.Cond) (q1 : Int64) (p2 : Int32) (r3 : Int64) (h0 : Heap) (n0 : Nat) (Z0 : n0 ≤ h0.size) (Hm3 : M12 l Z [] q1 (p2.toInt64) h0 n0 (some (.long r3))) :
    M11 l Z ws q1 p2 h0 n0 (some (.int (r3.toInt32))) := by
  refine MetFree.of_bodySF (Jvm.Free.JP.mathPlain rfl (by decide +kernel)) hisR ?_
  intro p e s m args below meth c s₁ Bd hml0 hP hK
  obtain ⟨rfl, hZ, hh⟩ := hP
  have hx := Bd.exec
  have hby := Bd.bytes
  have hml : c.maxLocals = 3 := hml0
  have hown : s.vm.findClass "java/lang/Math" = some m.cls := findClass_of_methodNamed Bd.named
  have hnm := (name_of_methodNamed Bd.named Bd.method).1
  have X0 : Stand p l e ({ frames := 1, cells := 0, slots := 0, locals := 17 } : Room) s m #[(.long q1), (.int p2)] below meth c s₁ [] 0 0 := Stand.of_body Bd
  have e0 : s₁.heap = h0 := by rw [← hh, Bd.state]; rfl
  have N0 := Fr.nil n0
  have pre0 : ∀ t, Steps p.tables e below (s₁.setTop (mkF m 0 #[.val (.long q1), .second, .val (.int p2)] [])) t → Steps p.tables e below (s₁.setTop (entryFrame m #[(.long q1), (.int p2)] 3)) t := fun t k => castTop (ef_11 m q1 p2) k
  obtain ⟨_, _, ⟨T3, L3, k3, n3⟩, -, X3, ⟨Lc3, hQ3, l3, y3, z3⟩, st3⟩ := Jvm.LawKit.callS X0 hx (y := (⟨"java/lang/Math", "floorMod", "(JJ)J"⟩ : MethodName)) hown (mvT hZ (hw _ (List.mem_of_getElem? (i := 60) rfl))) (mvT hZ (hw _ (List.mem_of_getElem? (i := 61) rfl))) (mvT hZ (hw _ (List.mem_of_getElem? (i := 33) rfl))) (mvT hZ (hw _ (List.mem_of_getElem? (i := 62) rfl))) (by decide) (backOf (W := 0) Hm3 hZ (hw _ (List.mem_of_getElem? (i := 62) rfl)) (hw _ (List.mem_of_getElem? (i := 33) rfl)) (by decide) (by decide)) (g := (mkF m 3 #[.val (.long q1), .second, .val (.int p2)] [(.long (p2.toInt64)), (.long q1)])) rfl (by rw [hml]; rfl) (argsL := [(.long q1), (.long (p2.toInt64))]) (rest := []) (lenOf pd_11_6 rfl) rfl (by show 2 * 0 + _ ≤ _; exact Nat.le_of_eq rfl) (hb hby d11_3) (fun _ _ => ⟨rfl, e0, (by decide : 0 + 0 ≤ _), (by decide : 0 + 0 ≤ _)⟩)
  dsimp only [Pt.U, Pt.locs, Pt.cells, Pt.slots] at X3 l3 y3 z3 st3 hQ3
  subst l3 y3 z3
  obtain ⟨rfl, N3q, hh3⟩ := hQ3
  have N3 := Fr.app N0 N3q
  obtain ⟨fs, hr, hrun, hended, hW, hsame⟩ := X3.leave (v := some (.int (r3.toInt32))) (fun h => by rw [Bd.returns] at h; cases h)
  refine ⟨_, _, pre0 _ ?_, hrun, hended, _, _, rfl, ?_, ⟨_, rfl⟩, hW, hsame.mono (by decide) (by decide)⟩
  · show Steps p.tables e below (s₁.setTop (mkF m 0 #[.val (.long q1), .second, .val (.int p2)] [])) _
    refine XS.lloadN X0.here hx rfl (hb hby d11_0) rfl ?_
    show Steps p.tables e below (s₁.setTop (mkF m 1 #[.val (.long q1), .second, .val (.int p2)] [(.long q1)])) _
    refine XS.iloadN X0.here hx rfl (hb hby d11_1) rfl ?_
    show Steps p.tables e below (s₁.setTop (mkF m 2 #[.val (.long q1), .second, .val (.int p2)] [(.int p2), (.long q1)])) _
    refine XS.i2l X0.here hx rfl (hb hby d11_2) rfl ?_
    show Steps p.tables e below (s₁.setTop (mkF m 3 #[.val (.long q1), .second, .val (.int p2)] [(.long (p2.toInt64)), (.long q1)])) _
    refine st3 _ ?_
    show Steps p.tables e below (T3.setTop (mkF m 6 #[.val (.long q1), .second, .val (.int p2)] [(.long r3)])) _
    refine XS.l2i X3.here hx rfl (hb hby d11_6) rfl ?_
    show Steps p.tables e below (T3.setTop (mkF m 7 #[.val (.long q1), .second, .val (.int p2)] [(.int (r3.toInt32))])) _
    exact retI X3 hx Bd.returns (hb hby d11_7) hr
  · show own_Q (some (.int (r3.toInt32))) h0 n0 _ T3.heap _
    rw [hh3]
    exact ⟨rfl, N3, rfl⟩
theorem d15_0 : decode jdk_33_method_47_code 0 = .ok (.iload_n 0, 1) := by decide +kernel
theorem d15_1 : decode jdk_33_method_47_code 1 = .ok (.ifCond .gt 14, 3) := by decide +kernel
theorem d15_15 : decode jdk_33_method_47_code 15 = .ok (.bipush 31, 2) := by decide +kernel
theorem d15_17 : decode jdk_33_method_47_code 17 = .ok (.istore_n 1, 1) := by decide +kernel
theorem d15_18 : decode jdk_33_method_47_code 18 = .ok (.iload_n 0, 1) := by decide +kernel
theorem d15_19 : decode jdk_33_method_47_code 19 = .ok (.ldc_w 264, 3) := by decide +kernel
theorem d15_22 : decode jdk_33_method_47_code 22 = .ok (.if_icmp .lt 11, 3) := by decide +kernel
theorem d15_33 : decode jdk_33_method_47_code 33 = .ok (.iload_n 0, 1) := by decide +kernel
theorem d15_34 : decode jdk_33_method_47_code 34 = .ok (.sipush 256, 3) := by decide +kernel
theorem d15_37 : decode jdk_33_method_47_code 37 = .ok (.if_icmp .lt 11, 3) := by decide +kernel
theorem d15_40 : decode jdk_33_method_47_code 40 = .ok (.iinc 1 (-8), 3) := by decide +kernel
theorem d15_43 : decode jdk_33_method_47_code 43 = .ok (.iload_n 0, 1) := by decide +kernel
theorem d15_44 : decode jdk_33_method_47_code 44 = .ok (.bipush 8, 2) := by decide +kernel
theorem d15_46 : decode jdk_33_method_47_code 46 = .ok (.iushr, 1) := by decide +kernel
theorem d15_47 : decode jdk_33_method_47_code 47 = .ok (.istore_n 0, 1) := by decide +kernel
theorem d15_48 : decode jdk_33_method_47_code 48 = .ok (.iload_n 0, 1) := by decide +kernel
theorem d15_49 : decode jdk_33_method_47_code 49 = .ok (.bipush 16, 2) := by decide +kernel
theorem d15_51 : decode jdk_33_method_47_code 51 = .ok (.if_icmp .lt 10, 3) := by decide +kernel
theorem d15_61 : decode jdk_33_method_47_code 61 = .ok (.iload_n 0, 1) := by decide +kernel
theorem d15_62 : decode jdk_33_method_47_code 62 = .ok (.iconst 4, 1) := by decide +kernel
theorem d15_63 : decode jdk_33_method_47_code 63 = .ok (.if_icmp .lt 10, 3) := by decide +kernel
theorem d15_73 : decode jdk_33_method_47_code 73 = .ok (.iload_n 1, 1) := by decide +kernel
theorem d15_74 : decode jdk_33_method_47_code 74 = .ok (.iload_n 0, 1) := by decide +kernel
theorem d15_75 : decode jdk_33_method_47_code 75 = .ok (.iconst 1, 1) := by decide +kernel
theorem d15_76 : decode jdk_33_method_47_code 76 = .ok (.iushr, 1) := by decide +kernel
theorem d15_77 : decode jdk_33_method_47_code 77 = .ok (.isub, 1) := by decide +kernel
theorem d15_78 : decode jdk_33_method_47_code 78 = .ok (.ireturn, 1) := by decide +kernel
theorem pn_15 : plainName "java/lang/Integer" = true := by first | (simp [plainName, overriddenIn]; done) | decide +kernel
theorem ef_15 (m : MethodId) (x0 : Int32) : entryFrame m #[(.int x0)] 2 = mkF m 0 #[.val (.int x0), .unset] [] := by first | (simp [entryFrame, mkF, argsToLocals, Value.category]; done) | rfl
abbrev M15 (l : Launch) (Z : State) (ws : List Jvm.Cond) (p1 : Int32) (h0 : Heap) (n0 : Nat) (r : Option Value) : Prop := MetFree l (⟨"java/lang/Integer", "numberOfLeadingZeros", "(I)I"⟩ : MethodName) (head1 (Jvm.Cond.code (⟨"java/lang/Integer", "numberOfLeadingZeros", "(I)I"⟩ : MethodName) jdk_33_method_47_code 2 (some .int) :: ws) ({ frames := 0, cells := 0, slots := 0, locals := 0 } : Room)) (fun a U => a = #[(.int p1)] ∧ Z.Warmed39 U.vm ∧ U.heap = h0) (fun _ _ _ _ _ => True) (fun _ U o U' => ∃ v L, o = .returned v ∧ own_Q r h0 n0 v U'.heap L ∧ FrameEnd U o U' L ({ frames := 0, cells := 0, slots := 0, locals := 0 } : Room).cells ({ frames := 0, cells := 0, slots := 0, locals := 0 } : Room).slots)
set_option maxRecDepth 65536 in
set_option maxHeartbeats 40000000 in
theorem rm15 (l : Launch) (Z : State) (a0 : Array Value) (hw : ∀ d ∈ tables_1, d.before a0 Z = true) (ws : List Jvm.Cond) (p1 : Int32) (h0 : Heap) (n0 : Nat) (Z0 : n0 ≤ h0.size) (hc1 : (0 : Int32) < p1) (hc22 : p1 < (65536 : Int32)) (hc37 : ¬ (p1 < (256 : Int32))) (hc51 : ((p1.toUInt32 >>> ((8 : Int32) &&& 31).toUInt32).toInt32) < (16 : Int32)) (hc63 : ((p1.toUInt32 >>> ((8 : Int32) &&& 31).toUInt32).toInt32) < (4 : Int32)) :
    M15 l Z ws p1 h0 n0 (some (.int (((31 : Int32) + (-8 : Int32)) - ((((p1.toUInt32 >>> ((8 : Int32) &&& 31).toUInt32).toInt32).toUInt32 >>> ((1 : Int32) &&& 31).toUInt32).toInt32)))) := by
  refine MetFree.of_bodySF (plainFor_of_name pn_15) hisR ?_
  intro p e s m args below meth c s₁ Bd hml0 hP hK
  obtain ⟨rfl, hZ, hh⟩ := hP
  have hx := Bd.exec
  have hby := Bd.bytes
  have hml : c.maxLocals = 2 := hml0
  have hown : s.vm.findClass "java/lang/Integer" = some m.cls := findClass_of_methodNamed Bd.named
  have hnm := (name_of_methodNamed Bd.named Bd.method).1
  have X0 : Stand p l e ({ frames := 0, cells := 0, slots := 0, locals := 0 } : Room) s m #[(.int p1)] below meth c s₁ [] 0 0 := Stand.of_body Bd
  have e0 : s₁.heap = h0 := by rw [← hh, Bd.state]; rfl
  have N0 := Fr.nil n0
  have pre0 : ∀ t, Steps p.tables e below (s₁.setTop (mkF m 0 #[.val (.int p1), .unset] [])) t → Steps p.tables e below (s₁.setTop (entryFrame m #[(.int p1)] 2)) t := fun t k => castTop (ef_15 m p1) k
  obtain ⟨fs, hr, hrun, hended, hW, hsame⟩ := X0.leave (v := some (.int (((31 : Int32) + (-8 : Int32)) - ((((p1.toUInt32 >>> ((8 : Int32) &&& 31).toUInt32).toInt32).toUInt32 >>> ((1 : Int32) &&& 31).toUInt32).toInt32)))) (fun h => by rw [Bd.returns] at h; cases h)
  refine ⟨_, _, pre0 _ ?_, hrun, hended, _, _, rfl, ?_, ⟨_, rfl⟩, hW, hsame.mono (by decide) (by decide)⟩
  · show Steps p.tables e below (s₁.setTop (mkF m 0 #[.val (.int p1), .unset] [])) _
    refine XS.iloadN X0.here hx rfl (hb hby d15_0) rfl ?_
    show Steps p.tables e below (s₁.setTop (mkF m 1 #[.val (.int p1), .unset] [(.int p1)])) _
    refine XS.ifYes X0.here hx rfl (pc0 := 1) (pc' := 15) rfl (hb hby d15_1) rfl ((if0 _ _).trans (tlt hc1).2.2.1) (by decide) (by decide) ?_
    show Steps p.tables e below (s₁.setTop (mkF m 15 #[.val (.int p1), .unset] [])) _
    refine XS.bipush X0.here hx rfl (hb hby d15_15) ?_
    show Steps p.tables e below (s₁.setTop (mkF m 17 #[.val (.int p1), .unset] [(.int (31 : Int32))])) _
    refine XS.istoreN X0.here hx rfl (hb hby d15_17) rfl (l' := #[.val (.int p1), .val (.int (31 : Int32))]) rfl ?_
    show Steps p.tables e below (s₁.setTop (mkF m 18 #[.val (.int p1), .val (.int (31 : Int32))] [])) _
    refine XS.iloadN X0.here hx rfl (hb hby d15_18) rfl ?_
    show Steps p.tables e below (s₁.setTop (mkF m 19 #[.val (.int p1), .val (.int (31 : Int32))] [(.int p1)])) _
    refine X0.ldcwInt hx hown (mvT hZ (hw _ (List.mem_of_getElem? (i := 76) rfl))) (g := (mkF m 19 #[.val (.int p1), .val (.int (31 : Int32))] [(.int p1)])) rfl (hb hby d15_19) _ ?_
    show Steps p.tables e below (s₁.setTop (mkF m 22 #[.val (.int p1), .val (.int (31 : Int32))] [(.int (65536 : Int32)), (.int p1)])) _
    refine XS.icmpYes X0.here hx rfl (pc0 := 22) (pc' := 33) rfl (hb hby d15_22) rfl (tlt hc22).1 (by decide) (by decide) ?_
    show Steps p.tables e below (s₁.setTop (mkF m 33 #[.val (.int p1), .val (.int (31 : Int32))] [])) _
    refine XS.iloadN X0.here hx rfl (hb hby d15_33) rfl ?_
    show Steps p.tables e below (s₁.setTop (mkF m 34 #[.val (.int p1), .val (.int (31 : Int32))] [(.int p1)])) _
    refine XS.sipush X0.here hx rfl (hb hby d15_34) ?_
    show Steps p.tables e below (s₁.setTop (mkF m 37 #[.val (.int p1), .val (.int (31 : Int32))] [(.int (256 : Int32)), (.int p1)])) _
    refine XS.icmpNo X0.here hx rfl (hb hby d15_37) rfl (flt hc37).1 ?_
    show Steps p.tables e below (s₁.setTop (mkF m 40 #[.val (.int p1), .val (.int (31 : Int32))] [])) _
    refine XS.iinc X0.here hx rfl (hb hby d15_40) rfl (l' := #[.val (.int p1), .val (.int ((31 : Int32) + (-8 : Int32)))]) rfl ?_
    show Steps p.tables e below (s₁.setTop (mkF m 43 #[.val (.int p1), .val (.int ((31 : Int32) + (-8 : Int32)))] [])) _
    refine XS.iloadN X0.here hx rfl (hb hby d15_43) rfl ?_
    show Steps p.tables e below (s₁.setTop (mkF m 44 #[.val (.int p1), .val (.int ((31 : Int32) + (-8 : Int32)))] [(.int p1)])) _
    refine XS.bipush X0.here hx rfl (hb hby d15_44) ?_
    show Steps p.tables e below (s₁.setTop (mkF m 46 #[.val (.int p1), .val (.int ((31 : Int32) + (-8 : Int32)))] [(.int (8 : Int32)), (.int p1)])) _
    refine XS.iushr X0.here hx rfl (hb hby d15_46) rfl ?_
    show Steps p.tables e below (s₁.setTop (mkF m 47 #[.val (.int p1), .val (.int ((31 : Int32) + (-8 : Int32)))] [(.int ((p1.toUInt32 >>> ((8 : Int32) &&& 31).toUInt32).toInt32))])) _
    refine XS.istoreN X0.here hx rfl (hb hby d15_47) rfl (l' := #[.val (.int ((p1.toUInt32 >>> ((8 : Int32) &&& 31).toUInt32).toInt32)), .val (.int ((31 : Int32) + (-8 : Int32)))]) rfl ?_
    show Steps p.tables e below (s₁.setTop (mkF m 48 #[.val (.int ((p1.toUInt32 >>> ((8 : Int32) &&& 31).toUInt32).toInt32)), .val (.int ((31 : Int32) + (-8 : Int32)))] [])) _
    refine XS.iloadN X0.here hx rfl (hb hby d15_48) rfl ?_
    show Steps p.tables e below (s₁.setTop (mkF m 49 #[.val (.int ((p1.toUInt32 >>> ((8 : Int32) &&& 31).toUInt32).toInt32)), .val (.int ((31 : Int32) + (-8 : Int32)))] [(.int ((p1.toUInt32 >>> ((8 : Int32) &&& 31).toUInt32).toInt32))])) _
    refine XS.bipush X0.here hx rfl (hb hby d15_49) ?_
    show Steps p.tables e below (s₁.setTop (mkF m 51 #[.val (.int ((p1.toUInt32 >>> ((8 : Int32) &&& 31).toUInt32).toInt32)), .val (.int ((31 : Int32) + (-8 : Int32)))] [(.int (16 : Int32)), (.int ((p1.toUInt32 >>> ((8 : Int32) &&& 31).toUInt32).toInt32))])) _
    refine XS.icmpYes X0.here hx rfl (pc0 := 51) (pc' := 61) rfl (hb hby d15_51) rfl (tlt hc51).1 (by decide) (by decide) ?_
    show Steps p.tables e below (s₁.setTop (mkF m 61 #[.val (.int ((p1.toUInt32 >>> ((8 : Int32) &&& 31).toUInt32).toInt32)), .val (.int ((31 : Int32) + (-8 : Int32)))] [])) _
    refine XS.iloadN X0.here hx rfl (hb hby d15_61) rfl ?_
    show Steps p.tables e below (s₁.setTop (mkF m 62 #[.val (.int ((p1.toUInt32 >>> ((8 : Int32) &&& 31).toUInt32).toInt32)), .val (.int ((31 : Int32) + (-8 : Int32)))] [(.int ((p1.toUInt32 >>> ((8 : Int32) &&& 31).toUInt32).toInt32))])) _
    refine XS.iconst X0.here hx rfl (hb hby d15_62) ?_
    show Steps p.tables e below (s₁.setTop (mkF m 63 #[.val (.int ((p1.toUInt32 >>> ((8 : Int32) &&& 31).toUInt32).toInt32)), .val (.int ((31 : Int32) + (-8 : Int32)))] [(.int (4 : Int32)), (.int ((p1.toUInt32 >>> ((8 : Int32) &&& 31).toUInt32).toInt32))])) _
    refine XS.icmpYes X0.here hx rfl (pc0 := 63) (pc' := 73) rfl (hb hby d15_63) rfl (tlt hc63).1 (by decide) (by decide) ?_
    show Steps p.tables e below (s₁.setTop (mkF m 73 #[.val (.int ((p1.toUInt32 >>> ((8 : Int32) &&& 31).toUInt32).toInt32)), .val (.int ((31 : Int32) + (-8 : Int32)))] [])) _
    refine XS.iloadN X0.here hx rfl (hb hby d15_73) rfl ?_
    show Steps p.tables e below (s₁.setTop (mkF m 74 #[.val (.int ((p1.toUInt32 >>> ((8 : Int32) &&& 31).toUInt32).toInt32)), .val (.int ((31 : Int32) + (-8 : Int32)))] [(.int ((31 : Int32) + (-8 : Int32)))])) _
    refine XS.iloadN X0.here hx rfl (hb hby d15_74) rfl ?_
    show Steps p.tables e below (s₁.setTop (mkF m 75 #[.val (.int ((p1.toUInt32 >>> ((8 : Int32) &&& 31).toUInt32).toInt32)), .val (.int ((31 : Int32) + (-8 : Int32)))] [(.int ((p1.toUInt32 >>> ((8 : Int32) &&& 31).toUInt32).toInt32)), (.int ((31 : Int32) + (-8 : Int32)))])) _
    refine XS.iconst X0.here hx rfl (hb hby d15_75) ?_
    show Steps p.tables e below (s₁.setTop (mkF m 76 #[.val (.int ((p1.toUInt32 >>> ((8 : Int32) &&& 31).toUInt32).toInt32)), .val (.int ((31 : Int32) + (-8 : Int32)))] [(.int (1 : Int32)), (.int ((p1.toUInt32 >>> ((8 : Int32) &&& 31).toUInt32).toInt32)), (.int ((31 : Int32) + (-8 : Int32)))])) _
    refine XS.iushr X0.here hx rfl (hb hby d15_76) rfl ?_
    show Steps p.tables e below (s₁.setTop (mkF m 77 #[.val (.int ((p1.toUInt32 >>> ((8 : Int32) &&& 31).toUInt32).toInt32)), .val (.int ((31 : Int32) + (-8 : Int32)))] [(.int ((((p1.toUInt32 >>> ((8 : Int32) &&& 31).toUInt32).toInt32).toUInt32 >>> ((1 : Int32) &&& 31).toUInt32).toInt32)), (.int ((31 : Int32) + (-8 : Int32)))])) _
    refine XS.isub X0.here hx rfl (hb hby d15_77) rfl ?_
    show Steps p.tables e below (s₁.setTop (mkF m 78 #[.val (.int ((p1.toUInt32 >>> ((8 : Int32) &&& 31).toUInt32).toInt32)), .val (.int ((31 : Int32) + (-8 : Int32)))] [(.int (((31 : Int32) + (-8 : Int32)) - ((((p1.toUInt32 >>> ((8 : Int32) &&& 31).toUInt32).toInt32).toUInt32 >>> ((1 : Int32) &&& 31).toUInt32).toInt32)))])) _
    exact retI X0 hx Bd.returns (hb hby d15_78) hr
  · show own_Q (some (.int (((31 : Int32) + (-8 : Int32)) - ((((p1.toUInt32 >>> ((8 : Int32) &&& 31).toUInt32).toInt32).toUInt32 >>> ((1 : Int32) &&& 31).toUInt32).toInt32)))) h0 n0 _ s₁.heap _
    rw [e0]
    exact ⟨rfl, N0, rfl⟩
theorem d14_0 : decode jdk_35_method_48_code 0 = .ok (.lload_n 0, 1) := by decide +kernel
theorem d14_1 : decode jdk_35_method_48_code 1 = .ok (.bipush 32, 2) := by decide +kernel
theorem d14_3 : decode jdk_35_method_48_code 3 = .ok (.lushr, 1) := by decide +kernel
theorem d14_4 : decode jdk_35_method_48_code 4 = .ok (.l2i, 1) := by decide +kernel
theorem d14_5 : decode jdk_35_method_48_code 5 = .ok (.istore_n 2, 1) := by decide +kernel
theorem d14_6 : decode jdk_35_method_48_code 6 = .ok (.iload_n 2, 1) := by decide +kernel
theorem d14_7 : decode jdk_35_method_48_code 7 = .ok (.ifCond .ne 14, 3) := by decide +kernel
theorem d14_10 : decode jdk_35_method_48_code 10 = .ok (.bipush 32, 2) := by decide +kernel
theorem d14_12 : decode jdk_35_method_48_code 12 = .ok (.lload_n 0, 1) := by decide +kernel
theorem d14_13 : decode jdk_35_method_48_code 13 = .ok (.l2i, 1) := by decide +kernel
theorem d14_14 : decode jdk_35_method_48_code 14 = .ok (.invokestatic 308, 3) := by decide +kernel
theorem d14_17 : decode jdk_35_method_48_code 17 = .ok (.iadd, 1) := by decide +kernel
theorem d14_18 : decode jdk_35_method_48_code 18 = .ok (.goto 7, 3) := by decide +kernel
theorem d14_25 : decode jdk_35_method_48_code 25 = .ok (.ireturn, 1) := by decide +kernel
theorem pn_14 : plainName "java/lang/Long" = true := by first | (simp [plainName, overriddenIn]; done) | decide +kernel
theorem pd_14_9 : parseMethodDescriptor "(I)I" = some ⟨[.int], some .int⟩ := by decide +kernel
theorem ef_14 (m : MethodId) (x0 : Int64) : entryFrame m #[(.long x0)] 3 = mkF m 0 #[.val (.long x0), .second, .unset] [] := by first | (simp [entryFrame, mkF, argsToLocals, Value.category]; done) | rfl
abbrev M14 (l : Launch) (Z : State) (ws : List Jvm.Cond) (q1 : Int64) (h0 : Heap) (n0 : Nat) (r : Option Value) : Prop := MetFree l (⟨"java/lang/Long", "numberOfLeadingZeros", "(J)I"⟩ : MethodName) (head1 (Jvm.Cond.code (⟨"java/lang/Long", "numberOfLeadingZeros", "(J)I"⟩ : MethodName) jdk_35_method_48_code 3 (some .int) :: ws) ({ frames := 1, cells := 0, slots := 0, locals := 14 } : Room)) (fun a U => a = #[(.long q1)] ∧ Z.Warmed39 U.vm ∧ U.heap = h0) (fun _ _ _ _ _ => True) (fun _ U o U' => ∃ v L, o = .returned v ∧ own_Q r h0 n0 v U'.heap L ∧ FrameEnd U o U' L ({ frames := 1, cells := 0, slots := 0, locals := 14 } : Room).cells ({ frames := 1, cells := 0, slots := 0, locals := 14 } : Room).slots)
set_option maxRecDepth 65536 in
set_option maxHeartbeats 40000000 in
theorem rm14 (l : Launch) (Z : State) (a0 : Array Value) (hw : ∀ d ∈ tables_1, d.before a0 Z = true) (ws : List Jvm.Cond) (q1 : Int64) (r2 : Int32) (h0 : Heap) (n0 : Nat) (Z0 : n0 ≤ h0.size) (Hm2 : M15 l Z [] (q1.toInt32) h0 n0 (some (.int r2))) (hc7 : (((q1.toUInt64 >>> ((32 : Int32) &&& 0x3f).toInt64.toUInt64).toInt64).toInt32) = (0 : Int32)) :
    M14 l Z ws q1 h0 n0 (some (.int ((32 : Int32) + r2))) := by
  refine MetFree.of_bodySF (plainFor_of_name pn_14) hisR ?_
  intro p e s m args below meth c s₁ Bd hml0 hP hK
  obtain ⟨rfl, hZ, hh⟩ := hP
  have hx := Bd.exec
  have hby := Bd.bytes
  have hml : c.maxLocals = 3 := hml0
  have hown : s.vm.findClass "java/lang/Long" = some m.cls := findClass_of_methodNamed Bd.named
  have hnm := (name_of_methodNamed Bd.named Bd.method).1
  have X0 : Stand p l e ({ frames := 1, cells := 0, slots := 0, locals := 14 } : Room) s m #[(.long q1)] below meth c s₁ [] 0 0 := Stand.of_body Bd
  have e0 : s₁.heap = h0 := by rw [← hh, Bd.state]; rfl
  have N0 := Fr.nil n0
  have pre0 : ∀ t, Steps p.tables e below (s₁.setTop (mkF m 0 #[.val (.long q1), .second, .unset] [])) t → Steps p.tables e below (s₁.setTop (entryFrame m #[(.long q1)] 3)) t := fun t k => castTop (ef_14 m q1) k
  obtain ⟨_, _, ⟨T2, L2, k2, n2⟩, -, X2, ⟨Lc2, hQ2, l2, y2, z2⟩, st2⟩ := Jvm.LawKit.callS X0 hx (y := (⟨"java/lang/Integer", "numberOfLeadingZeros", "(I)I"⟩ : MethodName)) hown (mvT hZ (hw _ (List.mem_of_getElem? (i := 72) rfl))) (mvT hZ (hw _ (List.mem_of_getElem? (i := 73) rfl))) (mvT hZ (hw _ (List.mem_of_getElem? (i := 74) rfl))) (mvT hZ (hw _ (List.mem_of_getElem? (i := 75) rfl))) (by decide) (backOf (W := 1) Hm2 hZ (hw _ (List.mem_of_getElem? (i := 75) rfl)) (hw _ (List.mem_of_getElem? (i := 74) rfl)) (by decide) (by decide)) (g := (mkF m 14 #[.val (.long q1), .second, .val (.int (((q1.toUInt64 >>> ((32 : Int32) &&& 0x3f).toInt64.toUInt64).toInt64).toInt32))] [(.int (q1.toInt32)), (.int (32 : Int32))])) rfl (by rw [hml]; rfl) (argsL := [(.int (q1.toInt32))]) (rest := [(.int (32 : Int32))]) (lenOf pd_14_9 rfl) rfl (by show 2 * 0 + _ ≤ _; exact Nat.le_of_eq rfl) (hb hby d14_14) (fun _ _ => ⟨rfl, e0, (by decide : 0 + 0 ≤ _), (by decide : 0 + 0 ≤ _)⟩)
  dsimp only [Pt.U, Pt.locs, Pt.cells, Pt.slots] at X2 l2 y2 z2 st2 hQ2
  subst l2 y2 z2
  obtain ⟨rfl, N2q, hh2⟩ := hQ2
  have N2 := Fr.app N0 N2q
  obtain ⟨fs, hr, hrun, hended, hW, hsame⟩ := X2.leave (v := some (.int ((32 : Int32) + r2))) (fun h => by rw [Bd.returns] at h; cases h)
  refine ⟨_, _, pre0 _ ?_, hrun, hended, _, _, rfl, ?_, ⟨_, rfl⟩, hW, hsame.mono (by decide) (by decide)⟩
  · show Steps p.tables e below (s₁.setTop (mkF m 0 #[.val (.long q1), .second, .unset] [])) _
    refine XS.lloadN X0.here hx rfl (hb hby d14_0) rfl ?_
    show Steps p.tables e below (s₁.setTop (mkF m 1 #[.val (.long q1), .second, .unset] [(.long q1)])) _
    refine XS.bipush X0.here hx rfl (hb hby d14_1) ?_
    show Steps p.tables e below (s₁.setTop (mkF m 3 #[.val (.long q1), .second, .unset] [(.int (32 : Int32)), (.long q1)])) _
    refine XS.lushr X0.here hx rfl (hb hby d14_3) rfl ?_
    show Steps p.tables e below (s₁.setTop (mkF m 4 #[.val (.long q1), .second, .unset] [(.long ((q1.toUInt64 >>> ((32 : Int32) &&& 0x3f).toInt64.toUInt64).toInt64))])) _
    refine XS.l2i X0.here hx rfl (hb hby d14_4) rfl ?_
    show Steps p.tables e below (s₁.setTop (mkF m 5 #[.val (.long q1), .second, .unset] [(.int (((q1.toUInt64 >>> ((32 : Int32) &&& 0x3f).toInt64.toUInt64).toInt64).toInt32))])) _
    refine XS.istoreN X0.here hx rfl (hb hby d14_5) rfl (l' := #[.val (.long q1), .second, .val (.int (((q1.toUInt64 >>> ((32 : Int32) &&& 0x3f).toInt64.toUInt64).toInt64).toInt32))]) rfl ?_
    show Steps p.tables e below (s₁.setTop (mkF m 6 #[.val (.long q1), .second, .val (.int (((q1.toUInt64 >>> ((32 : Int32) &&& 0x3f).toInt64.toUInt64).toInt64).toInt32))] [])) _
    refine XS.iloadN X0.here hx rfl (hb hby d14_6) rfl ?_
    show Steps p.tables e below (s₁.setTop (mkF m 7 #[.val (.long q1), .second, .val (.int (((q1.toUInt64 >>> ((32 : Int32) &&& 0x3f).toInt64.toUInt64).toInt64).toInt32))] [(.int (((q1.toUInt64 >>> ((32 : Int32) &&& 0x3f).toInt64.toUInt64).toInt64).toInt32))])) _
    refine XS.ifNo X0.here hx rfl (hb hby d14_7) rfl ((if0 _ _).trans (teq hc7).2) ?_
    show Steps p.tables e below (s₁.setTop (mkF m 10 #[.val (.long q1), .second, .val (.int (((q1.toUInt64 >>> ((32 : Int32) &&& 0x3f).toInt64.toUInt64).toInt64).toInt32))] [])) _
    refine XS.bipush X0.here hx rfl (hb hby d14_10) ?_
    show Steps p.tables e below (s₁.setTop (mkF m 12 #[.val (.long q1), .second, .val (.int (((q1.toUInt64 >>> ((32 : Int32) &&& 0x3f).toInt64.toUInt64).toInt64).toInt32))] [(.int (32 : Int32))])) _
    refine XS.lloadN X0.here hx rfl (hb hby d14_12) rfl ?_
    show Steps p.tables e below (s₁.setTop (mkF m 13 #[.val (.long q1), .second, .val (.int (((q1.toUInt64 >>> ((32 : Int32) &&& 0x3f).toInt64.toUInt64).toInt64).toInt32))] [(.long q1), (.int (32 : Int32))])) _
    refine XS.l2i X0.here hx rfl (hb hby d14_13) rfl ?_
    show Steps p.tables e below (s₁.setTop (mkF m 14 #[.val (.long q1), .second, .val (.int (((q1.toUInt64 >>> ((32 : Int32) &&& 0x3f).toInt64.toUInt64).toInt64).toInt32))] [(.int (q1.toInt32)), (.int (32 : Int32))])) _
    refine st2 _ ?_
    show Steps p.tables e below (T2.setTop (mkF m 17 #[.val (.long q1), .second, .val (.int (((q1.toUInt64 >>> ((32 : Int32) &&& 0x3f).toInt64.toUInt64).toInt64).toInt32))] [(.int r2), (.int (32 : Int32))])) _
    refine XS.iadd X2.here hx rfl (hb hby d14_17) rfl ?_
    show Steps p.tables e below (T2.setTop (mkF m 18 #[.val (.long q1), .second, .val (.int (((q1.toUInt64 >>> ((32 : Int32) &&& 0x3f).toInt64.toUInt64).toInt64).toInt32))] [(.int ((32 : Int32) + r2))])) _
    refine XS.goto X2.here hx rfl (pc0 := 18) (pc' := 25) rfl (hb hby d14_18) (by decide) (by decide) ?_
    show Steps p.tables e below (T2.setTop (mkF m 25 #[.val (.long q1), .second, .val (.int (((q1.toUInt64 >>> ((32 : Int32) &&& 0x3f).toInt64.toUInt64).toInt64).toInt32))] [(.int ((32 : Int32) + r2))])) _
    exact retI X2 hx Bd.returns (hb hby d14_25) hr
  · show own_Q (some (.int ((32 : Int32) + r2))) h0 n0 _ T2.heap _
    rw [hh2]
    exact ⟨rfl, N2, rfl⟩
theorem d13_0 : decode prog_41_method_3_code 0 = .ok (.aload_n 0, 1) := by decide +kernel
theorem d13_1 : decode prog_41_method_3_code 1 = .ok (.getfield 9, 3) := by decide +kernel
theorem d13_4 : decode prog_41_method_3_code 4 = .ok (.arraylength, 1) := by decide +kernel
theorem d13_5 : decode prog_41_method_3_code 5 = .ok (.iconst 1, 1) := by decide +kernel
theorem d13_6 : decode prog_41_method_3_code 6 = .ok (.isub, 1) := by decide +kernel
theorem d13_7 : decode prog_41_method_3_code 7 = .ok (.istore_n 3, 1) := by decide +kernel
theorem d13_8 : decode prog_41_method_3_code 8 = .ok (.lload_n 1, 1) := by decide +kernel
theorem d13_9 : decode prog_41_method_3_code 9 = .ok (.ldc2_w 62, 3) := by decide +kernel
theorem d13_12 : decode prog_41_method_3_code 12 = .ok (.lmul, 1) := by decide +kernel
theorem d13_13 : decode prog_41_method_3_code 13 = .ok (.iload_n 3, 1) := by decide +kernel
theorem d13_14 : decode prog_41_method_3_code 14 = .ok (.i2l, 1) := by decide +kernel
theorem d13_15 : decode prog_41_method_3_code 15 = .ok (.invokestatic 64, 3) := by decide +kernel
theorem d13_18 : decode prog_41_method_3_code 18 = .ok (.lushr, 1) := by decide +kernel
theorem d13_19 : decode prog_41_method_3_code 19 = .ok (.l2i, 1) := by decide +kernel
theorem d13_20 : decode prog_41_method_3_code 20 = .ok (.istore 4, 2) := by decide +kernel
theorem d13_22 : decode prog_41_method_3_code 22 = .ok (.aload_n 0, 1) := by decide +kernel
theorem d13_23 : decode prog_41_method_3_code 23 = .ok (.getfield 15, 3) := by decide +kernel
theorem d13_26 : decode prog_41_method_3_code 26 = .ok (.iload 4, 2) := by decide +kernel
theorem d13_28 : decode prog_41_method_3_code 28 = .ok (.laload, 1) := by decide +kernel
theorem d13_29 : decode prog_41_method_3_code 29 = .ok (.lconst 0, 1) := by decide +kernel
theorem d13_30 : decode prog_41_method_3_code 30 = .ok (.lcmp, 1) := by decide +kernel
theorem d13_31 : decode prog_41_method_3_code 31 = .ok (.ifCond .eq 26, 3) := by decide +kernel
theorem d13_57 : decode prog_41_method_3_code 57 = .ok (.iload 4, 2) := by decide +kernel
theorem d13_59 : decode prog_41_method_3_code 59 = .ok (.ireturn, 1) := by decide +kernel
theorem pn_13 : plainName "com/example/crackline/crackline/SeenValues" = true := by first | (simp [plainName, overriddenIn]; done) | decide +kernel
theorem pd_13_7 : parseMethodDescriptor "(J)I" = some ⟨[.long], some .int⟩ := by decide +kernel
theorem ef_13 (m : MethodId) (x0 : Addr) (x1 : Int64) : entryFrame m #[(.ref x0), (.long x1)] 5 = mkF m 0 #[.val (.ref x0), .val (.long x1), .second, .unset, .unset] [] := by first | (simp [entryFrame, mkF, argsToLocals, Value.category]; done) | rfl
abbrev M13 (l : Launch) (Z : State) (ws : List Jvm.Cond) (a1 : Addr) (q2 : Int64) (h0 : Heap) (n0 : Nat) (r : Option Value) : Prop := MetFree l (⟨"com/example/crackline/crackline/SeenValues", "slot", "(J)I"⟩ : MethodName) (head1 (Jvm.Cond.code (⟨"com/example/crackline/crackline/SeenValues", "slot", "(J)I"⟩ : MethodName) prog_41_method_3_code 5 (some .int) :: ws) ({ frames := 2, cells := 0, slots := 0, locals := 30 } : Room)) (fun a U => a = #[(.ref a1), (.long q2)] ∧ Z.Warmed39 U.vm ∧ U.heap = h0) (fun _ _ _ _ _ => True) (fun _ U o U' => ∃ v L, o = .returned v ∧ own_Q r h0 n0 v U'.heap L ∧ FrameEnd U o U' L ({ frames := 2, cells := 0, slots := 0, locals := 30 } : Room).cells ({ frames := 2, cells := 0, slots := 0, locals := 30 } : Room).slots)
set_option maxRecDepth 65536 in
set_option maxHeartbeats 40000000 in
theorem rm13_t (l : Launch) (Z : State) (a0 : Array Value) (hw : ∀ d ∈ tables_1, d.before a0 Z = true) (ws : List Jvm.Cond) (a1 : Addr) (q2 : Int64) (w3 : Addr) (cl_w3 : Cell) (z_w3 : Int32) (r5 : Int32) (w6 : Addr) (w8 : Int64) (cl_w6 : Cell) (h0 : Heap) (n0 : Nat) (Z0 : n0 ≤ h0.size) (F_keys_a1 : Fld Z h0 a1 "com/example/crackline/crackline/SeenValues" "keys" "[J" (.ref w3)) (Ar_w3 : Arr Z h0 w3 cl_w3 .long) (S_w3 : cl_w3.slots.size = z_w3.toNatClampNeg) (N_w3 : ¬ z_w3 < 0) (Hm5 : M14 l Z [] ((z_w3 - (1 : Int32)).toInt64) h0 n0 (some (.int r5))) (F_words_a1 : Fld Z h0 a1 "com/example/crackline/crackline/SeenValues" "words" "[J" (.ref w6)) (Ar_w6 : Arr Z h0 w6 cl_w6 .long) (hin28 : ¬ (((((q2 * (-7046029254386353131 : Int64)).toUInt64 >>> (r5 &&& 0x3f).toInt64.toUInt64).toInt64).toInt32) < 0 ∨ cl_w6.slots.size ≤ (((((q2 * (-7046029254386353131 : Int64)).toUInt64 >>> (r5 &&& 0x3f).toInt64.toUInt64).toInt64).toInt32)).toNatClampNeg)) (hat28 : cl_w6.slots[(((((q2 * (-7046029254386353131 : Int64)).toUInt64 >>> (r5 &&& 0x3f).toInt64.toUInt64).toInt64).toInt32)).toNatClampNeg]? = some (.long w8)) (hc31 : (lcmpW w8 (0 : Int64)) = (0 : Int32)) :
    M13 l Z ws a1 q2 h0 n0 (some (.int ((((q2 * (-7046029254386353131 : Int64)).toUInt64 >>> (r5 &&& 0x3f).toInt64.toUInt64).toInt64).toInt32))) := by
  refine MetFree.of_bodySF (plainFor_of_name pn_13) hisR ?_
  intro p e s m args below meth c s₁ Bd hml0 hP hK
  obtain ⟨rfl, hZ, hh⟩ := hP
  have hx := Bd.exec
  have hby := Bd.bytes
  have hml : c.maxLocals = 5 := hml0
  have hown : s.vm.findClass "com/example/crackline/crackline/SeenValues" = some m.cls := findClass_of_methodNamed Bd.named
  have hnm := (name_of_methodNamed Bd.named Bd.method).1
  have X0 : Stand p l e ({ frames := 2, cells := 0, slots := 0, locals := 30 } : Room) s m #[(.ref a1), (.long q2)] below meth c s₁ [] 0 0 := Stand.of_body Bd
  have e0 : s₁.heap = h0 := by rw [← hh, Bd.state]; rfl
  have N0 := Fr.nil n0
  have pre0 : ∀ t, Steps p.tables e below (s₁.setTop (mkF m 0 #[.val (.ref a1), .val (.long q2), .second, .unset, .unset] [])) t → Steps p.tables e below (s₁.setTop (entryFrame m #[(.ref a1), (.long q2)] 5)) t := fun t k => castTop (ef_13 m a1 q2) k
  obtain ⟨T4, X4, e4, st4⟩ := getF X0 hx hZ hown (host := "") (Or.inl (hw _ (List.mem_of_getElem? (i := 20) rfl))) Via.refl e0 F_keys_a1 (g := (mkF m 1 #[.val (.ref a1), .val (.long q2), .second, .unset, .unset] [(.ref a1)])) rfl rfl (hb hby d13_1)
  obtain ⟨_, _, ⟨T5, L5, k5, n5⟩, -, X5, ⟨Lc5, hQ5, l5, y5, z5⟩, st5⟩ := Jvm.LawKit.callS X4 hx (y := (⟨"java/lang/Long", "numberOfLeadingZeros", "(J)I"⟩ : MethodName)) hown (mvT hZ (hw _ (List.mem_of_getElem? (i := 68) rfl))) (mvT hZ (hw _ (List.mem_of_getElem? (i := 69) rfl))) (mvT hZ (hw _ (List.mem_of_getElem? (i := 70) rfl))) (mvT hZ (hw _ (List.mem_of_getElem? (i := 71) rfl))) (by decide) (backOf (W := 2) Hm5 hZ (hw _ (List.mem_of_getElem? (i := 71) rfl)) (hw _ (List.mem_of_getElem? (i := 70) rfl)) (by decide) (by decide)) (g := (mkF m 15 #[.val (.ref a1), .val (.long q2), .second, .val (.int (z_w3 - (1 : Int32))), .unset] [(.long ((z_w3 - (1 : Int32)).toInt64)), (.long (q2 * (-7046029254386353131 : Int64)))])) rfl (by rw [hml]; rfl) (argsL := [(.long ((z_w3 - (1 : Int32)).toInt64))]) (rest := [(.long (q2 * (-7046029254386353131 : Int64)))]) (lenOf pd_13_7 rfl) rfl (by show 2 * 0 + _ ≤ _; exact Nat.le_of_eq rfl) (hb hby d13_15) (fun _ _ => ⟨rfl, e4, (by decide : 0 + 0 ≤ _), (by decide : 0 + 0 ≤ _)⟩)
  dsimp only [Pt.U, Pt.locs, Pt.cells, Pt.slots] at X5 l5 y5 z5 st5 hQ5
  subst l5 y5 z5
  obtain ⟨rfl, N5q, hh5⟩ := hQ5
  have N5 := Fr.app N0 N5q
  obtain ⟨T7, X7, e7, st7⟩ := getF X5 hx hZ hown (host := "") (Or.inl (hw _ (List.mem_of_getElem? (i := 22) rfl))) Via.refl hh5 F_words_a1 (g := (mkF m 23 #[.val (.ref a1), .val (.long q2), .second, .val (.int (z_w3 - (1 : Int32))), .val (.int ((((q2 * (-7046029254386353131 : Int64)).toUInt64 >>> (r5 &&& 0x3f).toInt64.toUInt64).toInt64).toInt32))] [(.ref a1)])) rfl rfl (hb hby d13_23)
  obtain ⟨fs, hr, hrun, hended, hW, hsame⟩ := X7.leave (v := some (.int ((((q2 * (-7046029254386353131 : Int64)).toUInt64 >>> (r5 &&& 0x3f).toInt64.toUInt64).toInt64).toInt32))) (fun h => by rw [Bd.returns] at h; cases h)
  refine ⟨_, _, pre0 _ ?_, hrun, hended, _, _, rfl, ?_, ⟨_, rfl⟩, hW, hsame.mono (by decide) (by decide)⟩
  · show Steps p.tables e below (s₁.setTop (mkF m 0 #[.val (.ref a1), .val (.long q2), .second, .unset, .unset] [])) _
    refine XS.aloadN X0.here hx rfl (hb hby d13_0) rfl rfl ?_
    show Steps p.tables e below (s₁.setTop (mkF m 1 #[.val (.ref a1), .val (.long q2), .second, .unset, .unset] [(.ref a1)])) _
    refine st4 _ ?_
    show Steps p.tables e below (T4.setTop (mkF m 4 #[.val (.ref a1), .val (.long q2), .second, .unset, .unset] [(.ref w3)])) _
    refine X4.arraylength hx (by rw [e4]; exact Ar_w3.1) (State.isArrayOf_alike hZ.alike Ar_w3.2.1) (g := (mkF m 4 #[.val (.ref a1), .val (.long q2), .second, .unset, .unset] [(.ref w3)])) rfl rfl (hb hby d13_4) _ ?_
    rw [len_of S_w3 N_w3]
    show Steps p.tables e below (T4.setTop (mkF m 5 #[.val (.ref a1), .val (.long q2), .second, .unset, .unset] [(.int z_w3)])) _
    refine XS.iconst X4.here hx rfl (hb hby d13_5) ?_
    show Steps p.tables e below (T4.setTop (mkF m 6 #[.val (.ref a1), .val (.long q2), .second, .unset, .unset] [(.int (1 : Int32)), (.int z_w3)])) _
    refine XS.isub X4.here hx rfl (hb hby d13_6) rfl ?_
    show Steps p.tables e below (T4.setTop (mkF m 7 #[.val (.ref a1), .val (.long q2), .second, .unset, .unset] [(.int (z_w3 - (1 : Int32)))])) _
    refine XS.istoreN X4.here hx rfl (hb hby d13_7) rfl (l' := #[.val (.ref a1), .val (.long q2), .second, .val (.int (z_w3 - (1 : Int32))), .unset]) rfl ?_
    show Steps p.tables e below (T4.setTop (mkF m 8 #[.val (.ref a1), .val (.long q2), .second, .val (.int (z_w3 - (1 : Int32))), .unset] [])) _
    refine XS.lloadN X4.here hx rfl (hb hby d13_8) rfl ?_
    show Steps p.tables e below (T4.setTop (mkF m 9 #[.val (.ref a1), .val (.long q2), .second, .val (.int (z_w3 - (1 : Int32))), .unset] [(.long q2)])) _
    refine X4.ldc2Long hx hown (mvT hZ (hw _ (List.mem_of_getElem? (i := 67) rfl))) (g := (mkF m 9 #[.val (.ref a1), .val (.long q2), .second, .val (.int (z_w3 - (1 : Int32))), .unset] [(.long q2)])) rfl (hb hby d13_9) _ ?_
    show Steps p.tables e below (T4.setTop (mkF m 12 #[.val (.ref a1), .val (.long q2), .second, .val (.int (z_w3 - (1 : Int32))), .unset] [(.long (-7046029254386353131 : Int64)), (.long q2)])) _
    refine XS.lmul X4.here hx rfl (hb hby d13_12) rfl ?_
    show Steps p.tables e below (T4.setTop (mkF m 13 #[.val (.ref a1), .val (.long q2), .second, .val (.int (z_w3 - (1 : Int32))), .unset] [(.long (q2 * (-7046029254386353131 : Int64)))])) _
    refine XS.iloadN X4.here hx rfl (hb hby d13_13) rfl ?_
    show Steps p.tables e below (T4.setTop (mkF m 14 #[.val (.ref a1), .val (.long q2), .second, .val (.int (z_w3 - (1 : Int32))), .unset] [(.int (z_w3 - (1 : Int32))), (.long (q2 * (-7046029254386353131 : Int64)))])) _
    refine XS.i2l X4.here hx rfl (hb hby d13_14) rfl ?_
    show Steps p.tables e below (T4.setTop (mkF m 15 #[.val (.ref a1), .val (.long q2), .second, .val (.int (z_w3 - (1 : Int32))), .unset] [(.long ((z_w3 - (1 : Int32)).toInt64)), (.long (q2 * (-7046029254386353131 : Int64)))])) _
    refine st5 _ ?_
    show Steps p.tables e below (T5.setTop (mkF m 18 #[.val (.ref a1), .val (.long q2), .second, .val (.int (z_w3 - (1 : Int32))), .unset] [(.int r5), (.long (q2 * (-7046029254386353131 : Int64)))])) _
    refine XS.lushr X5.here hx rfl (hb hby d13_18) rfl ?_
    show Steps p.tables e below (T5.setTop (mkF m 19 #[.val (.ref a1), .val (.long q2), .second, .val (.int (z_w3 - (1 : Int32))), .unset] [(.long (((q2 * (-7046029254386353131 : Int64)).toUInt64 >>> (r5 &&& 0x3f).toInt64.toUInt64).toInt64))])) _
    refine XS.l2i X5.here hx rfl (hb hby d13_19) rfl ?_
    show Steps p.tables e below (T5.setTop (mkF m 20 #[.val (.ref a1), .val (.long q2), .second, .val (.int (z_w3 - (1 : Int32))), .unset] [(.int ((((q2 * (-7046029254386353131 : Int64)).toUInt64 >>> (r5 &&& 0x3f).toInt64.toUInt64).toInt64).toInt32))])) _
    refine XS.istore X5.here hx rfl (hb hby d13_20) rfl (l' := #[.val (.ref a1), .val (.long q2), .second, .val (.int (z_w3 - (1 : Int32))), .val (.int ((((q2 * (-7046029254386353131 : Int64)).toUInt64 >>> (r5 &&& 0x3f).toInt64.toUInt64).toInt64).toInt32))]) rfl ?_
    show Steps p.tables e below (T5.setTop (mkF m 22 #[.val (.ref a1), .val (.long q2), .second, .val (.int (z_w3 - (1 : Int32))), .val (.int ((((q2 * (-7046029254386353131 : Int64)).toUInt64 >>> (r5 &&& 0x3f).toInt64.toUInt64).toInt64).toInt32))] [])) _
    refine XS.aloadN X5.here hx rfl (hb hby d13_22) rfl rfl ?_
    show Steps p.tables e below (T5.setTop (mkF m 23 #[.val (.ref a1), .val (.long q2), .second, .val (.int (z_w3 - (1 : Int32))), .val (.int ((((q2 * (-7046029254386353131 : Int64)).toUInt64 >>> (r5 &&& 0x3f).toInt64.toUInt64).toInt64).toInt32))] [(.ref a1)])) _
    refine st7 _ ?_
    show Steps p.tables e below (T7.setTop (mkF m 26 #[.val (.ref a1), .val (.long q2), .second, .val (.int (z_w3 - (1 : Int32))), .val (.int ((((q2 * (-7046029254386353131 : Int64)).toUInt64 >>> (r5 &&& 0x3f).toInt64.toUInt64).toInt64).toInt32))] [(.ref w6)])) _
    refine XS.iload X7.here hx rfl (hb hby d13_26) rfl ?_
    show Steps p.tables e below (T7.setTop (mkF m 28 #[.val (.ref a1), .val (.long q2), .second, .val (.int (z_w3 - (1 : Int32))), .val (.int ((((q2 * (-7046029254386353131 : Int64)).toUInt64 >>> (r5 &&& 0x3f).toInt64.toUInt64).toInt64).toInt32))] [(.int ((((q2 * (-7046029254386353131 : Int64)).toUInt64 >>> (r5 &&& 0x3f).toInt64.toUInt64).toInt64).toInt32)), (.ref w6)])) _
    refine X7.laload hx (j := ((((q2 * (-7046029254386353131 : Int64)).toUInt64 >>> (r5 &&& 0x3f).toInt64.toUInt64).toInt64).toInt32)) (v := (.long w8)) (by rw [e7]; exact Ar_w6.1) (State.isArrayOf_alike hZ.alike Ar_w6.2.1) Ar_w6.2.2 hin28 hat28 (g := (mkF m 28 #[.val (.ref a1), .val (.long q2), .second, .val (.int (z_w3 - (1 : Int32))), .val (.int ((((q2 * (-7046029254386353131 : Int64)).toUInt64 >>> (r5 &&& 0x3f).toInt64.toUInt64).toInt64).toInt32))] [(.int ((((q2 * (-7046029254386353131 : Int64)).toUInt64 >>> (r5 &&& 0x3f).toInt64.toUInt64).toInt64).toInt32)), (.ref w6)])) rfl rfl (hb hby d13_28) _ ?_
    show Steps p.tables e below (T7.setTop (mkF m 29 #[.val (.ref a1), .val (.long q2), .second, .val (.int (z_w3 - (1 : Int32))), .val (.int ((((q2 * (-7046029254386353131 : Int64)).toUInt64 >>> (r5 &&& 0x3f).toInt64.toUInt64).toInt64).toInt32))] [(.long w8)])) _
    refine XS.lconst X7.here hx rfl (hb hby d13_29) ?_
    show Steps p.tables e below (T7.setTop (mkF m 30 #[.val (.ref a1), .val (.long q2), .second, .val (.int (z_w3 - (1 : Int32))), .val (.int ((((q2 * (-7046029254386353131 : Int64)).toUInt64 >>> (r5 &&& 0x3f).toInt64.toUInt64).toInt64).toInt32))] [(.long (0 : Int64)), (.long w8)])) _
    refine XS.lcmp X7.here hx rfl (hb hby d13_30) rfl ?_
    show Steps p.tables e below (T7.setTop (mkF m 31 #[.val (.ref a1), .val (.long q2), .second, .val (.int (z_w3 - (1 : Int32))), .val (.int ((((q2 * (-7046029254386353131 : Int64)).toUInt64 >>> (r5 &&& 0x3f).toInt64.toUInt64).toInt64).toInt32))] [(.int (lcmpW w8 (0 : Int64)))])) _
    refine XS.ifYes X7.here hx rfl (pc0 := 31) (pc' := 57) rfl (hb hby d13_31) rfl ((if0 _ _).trans (teq hc31).1) (by decide) (by decide) ?_
    show Steps p.tables e below (T7.setTop (mkF m 57 #[.val (.ref a1), .val (.long q2), .second, .val (.int (z_w3 - (1 : Int32))), .val (.int ((((q2 * (-7046029254386353131 : Int64)).toUInt64 >>> (r5 &&& 0x3f).toInt64.toUInt64).toInt64).toInt32))] [])) _
    refine XS.iload X7.here hx rfl (hb hby d13_57) rfl ?_
    show Steps p.tables e below (T7.setTop (mkF m 59 #[.val (.ref a1), .val (.long q2), .second, .val (.int (z_w3 - (1 : Int32))), .val (.int ((((q2 * (-7046029254386353131 : Int64)).toUInt64 >>> (r5 &&& 0x3f).toInt64.toUInt64).toInt64).toInt32))] [(.int ((((q2 * (-7046029254386353131 : Int64)).toUInt64 >>> (r5 &&& 0x3f).toInt64.toUInt64).toInt64).toInt32))])) _
    exact retI X7 hx Bd.returns (hb hby d13_59) hr
  · show own_Q (some (.int ((((q2 * (-7046029254386353131 : Int64)).toUInt64 >>> (r5 &&& 0x3f).toInt64.toUInt64).toInt64).toInt32))) h0 n0 _ T7.heap _
    rw [e7]
    exact ⟨rfl, N5, rfl⟩
theorem d13_34 : decode prog_41_method_3_code 34 = .ok (.aload_n 0, 1) := by decide +kernel
theorem d13_35 : decode prog_41_method_3_code 35 = .ok (.getfield 9, 3) := by decide +kernel
theorem d13_38 : decode prog_41_method_3_code 38 = .ok (.iload 4, 2) := by decide +kernel
theorem d13_40 : decode prog_41_method_3_code 40 = .ok (.laload, 1) := by decide +kernel
theorem d13_41 : decode prog_41_method_3_code 41 = .ok (.lload_n 1, 1) := by decide +kernel
theorem d13_42 : decode prog_41_method_3_code 42 = .ok (.lcmp, 1) := by decide +kernel
theorem d13_43 : decode prog_41_method_3_code 43 = .ok (.ifCond .eq 14, 3) := by decide +kernel
set_option maxRecDepth 65536 in
set_option maxHeartbeats 40000000 in
theorem rm13_ft (l : Launch) (Z : State) (a0 : Array Value) (hw : ∀ d ∈ tables_1, d.before a0 Z = true) (ws : List Jvm.Cond) (a1 : Addr) (q2 : Int64) (w3 : Addr) (cl_w3 : Cell) (z_w3 : Int32) (r5 : Int32) (w6 : Addr) (w8 : Int64) (cl_w6 : Cell) (w10 : Int64) (h0 : Heap) (n0 : Nat) (Z0 : n0 ≤ h0.size) (F_keys_a1 : Fld Z h0 a1 "com/example/crackline/crackline/SeenValues" "keys" "[J" (.ref w3)) (Ar_w3 : Arr Z h0 w3 cl_w3 .long) (S_w3 : cl_w3.slots.size = z_w3.toNatClampNeg) (N_w3 : ¬ z_w3 < 0) (Hm5 : M14 l Z [] ((z_w3 - (1 : Int32)).toInt64) h0 n0 (some (.int r5))) (F_words_a1 : Fld Z h0 a1 "com/example/crackline/crackline/SeenValues" "words" "[J" (.ref w6)) (Ar_w6 : Arr Z h0 w6 cl_w6 .long) (hin28 : ¬ (((((q2 * (-7046029254386353131 : Int64)).toUInt64 >>> (r5 &&& 0x3f).toInt64.toUInt64).toInt64).toInt32) < 0 ∨ cl_w6.slots.size ≤ (((((q2 * (-7046029254386353131 : Int64)).toUInt64 >>> (r5 &&& 0x3f).toInt64.toUInt64).toInt64).toInt32)).toNatClampNeg)) (hat28 : cl_w6.slots[(((((q2 * (-7046029254386353131 : Int64)).toUInt64 >>> (r5 &&& 0x3f).toInt64.toUInt64).toInt64).toInt32)).toNatClampNeg]? = some (.long w8)) (hin40 : ¬ (((((q2 * (-7046029254386353131 : Int64)).toUInt64 >>> (r5 &&& 0x3f).toInt64.toUInt64).toInt64).toInt32) < 0 ∨ cl_w3.slots.size ≤ (((((q2 * (-7046029254386353131 : Int64)).toUInt64 >>> (r5 &&& 0x3f).toInt64.toUInt64).toInt64).toInt32)).toNatClampNeg)) (hat40 : cl_w3.slots[(((((q2 * (-7046029254386353131 : Int64)).toUInt64 >>> (r5 &&& 0x3f).toInt64.toUInt64).toInt64).toInt32)).toNatClampNeg]? = some (.long w10)) (hc31 : ¬ ((lcmpW w8 (0 : Int64)) = (0 : Int32))) (hc43 : (lcmpW w10 q2) = (0 : Int32)) :
    M13 l Z ws a1 q2 h0 n0 (some (.int ((((q2 * (-7046029254386353131 : Int64)).toUInt64 >>> (r5 &&& 0x3f).toInt64.toUInt64).toInt64).toInt32))) := by
  refine MetFree.of_bodySF (plainFor_of_name pn_13) hisR ?_
  intro p e s m args below meth c s₁ Bd hml0 hP hK
  obtain ⟨rfl, hZ, hh⟩ := hP
  have hx := Bd.exec
  have hby := Bd.bytes
  have hml : c.maxLocals = 5 := hml0
  have hown : s.vm.findClass "com/example/crackline/crackline/SeenValues" = some m.cls := findClass_of_methodNamed Bd.named
  have hnm := (name_of_methodNamed Bd.named Bd.method).1
  have X0 : Stand p l e ({ frames := 2, cells := 0, slots := 0, locals := 30 } : Room) s m #[(.ref a1), (.long q2)] below meth c s₁ [] 0 0 := Stand.of_body Bd
  have e0 : s₁.heap = h0 := by rw [← hh, Bd.state]; rfl
  have N0 := Fr.nil n0
  have pre0 : ∀ t, Steps p.tables e below (s₁.setTop (mkF m 0 #[.val (.ref a1), .val (.long q2), .second, .unset, .unset] [])) t → Steps p.tables e below (s₁.setTop (entryFrame m #[(.ref a1), (.long q2)] 5)) t := fun t k => castTop (ef_13 m a1 q2) k
  obtain ⟨T4, X4, e4, st4⟩ := getF X0 hx hZ hown (host := "") (Or.inl (hw _ (List.mem_of_getElem? (i := 20) rfl))) Via.refl e0 F_keys_a1 (g := (mkF m 1 #[.val (.ref a1), .val (.long q2), .second, .unset, .unset] [(.ref a1)])) rfl rfl (hb hby d13_1)
  obtain ⟨_, _, ⟨T5, L5, k5, n5⟩, -, X5, ⟨Lc5, hQ5, l5, y5, z5⟩, st5⟩ := Jvm.LawKit.callS X4 hx (y := (⟨"java/lang/Long", "numberOfLeadingZeros", "(J)I"⟩ : MethodName)) hown (mvT hZ (hw _ (List.mem_of_getElem? (i := 68) rfl))) (mvT hZ (hw _ (List.mem_of_getElem? (i := 69) rfl))) (mvT hZ (hw _ (List.mem_of_getElem? (i := 70) rfl))) (mvT hZ (hw _ (List.mem_of_getElem? (i := 71) rfl))) (by decide) (backOf (W := 2) Hm5 hZ (hw _ (List.mem_of_getElem? (i := 71) rfl)) (hw _ (List.mem_of_getElem? (i := 70) rfl)) (by decide) (by decide)) (g := (mkF m 15 #[.val (.ref a1), .val (.long q2), .second, .val (.int (z_w3 - (1 : Int32))), .unset] [(.long ((z_w3 - (1 : Int32)).toInt64)), (.long (q2 * (-7046029254386353131 : Int64)))])) rfl (by rw [hml]; rfl) (argsL := [(.long ((z_w3 - (1 : Int32)).toInt64))]) (rest := [(.long (q2 * (-7046029254386353131 : Int64)))]) (lenOf pd_13_7 rfl) rfl (by show 2 * 0 + _ ≤ _; exact Nat.le_of_eq rfl) (hb hby d13_15) (fun _ _ => ⟨rfl, e4, (by decide : 0 + 0 ≤ _), (by decide : 0 + 0 ≤ _)⟩)
  dsimp only [Pt.U, Pt.locs, Pt.cells, Pt.slots] at X5 l5 y5 z5 st5 hQ5
  subst l5 y5 z5
  obtain ⟨rfl, N5q, hh5⟩ := hQ5
  have N5 := Fr.app N0 N5q
  obtain ⟨T7, X7, e7, st7⟩ := getF X5 hx hZ hown (host := "") (Or.inl (hw _ (List.mem_of_getElem? (i := 22) rfl))) Via.refl hh5 F_words_a1 (g := (mkF m 23 #[.val (.ref a1), .val (.long q2), .second, .val (.int (z_w3 - (1 : Int32))), .val (.int ((((q2 * (-7046029254386353131 : Int64)).toUInt64 >>> (r5 &&& 0x3f).toInt64.toUInt64).toInt64).toInt32))] [(.ref a1)])) rfl rfl (hb hby d13_23)
  obtain ⟨T9, X9, e9, st9⟩ := getF X7 hx hZ hown (host := "") (Or.inl (hw _ (List.mem_of_getElem? (i := 20) rfl))) Via.refl e7 F_keys_a1 (g := (mkF m 35 #[.val (.ref a1), .val (.long q2), .second, .val (.int (z_w3 - (1 : Int32))), .val (.int ((((q2 * (-7046029254386353131 : Int64)).toUInt64 >>> (r5 &&& 0x3f).toInt64.toUInt64).toInt64).toInt32))] [(.ref a1)])) rfl rfl (hb hby d13_35)
  obtain ⟨fs, hr, hrun, hended, hW, hsame⟩ := X9.leave (v := some (.int ((((q2 * (-7046029254386353131 : Int64)).toUInt64 >>> (r5 &&& 0x3f).toInt64.toUInt64).toInt64).toInt32))) (fun h => by rw [Bd.returns] at h; cases h)
  refine ⟨_, _, pre0 _ ?_, hrun, hended, _, _, rfl, ?_, ⟨_, rfl⟩, hW, hsame.mono (by decide) (by decide)⟩
  · show Steps p.tables e below (s₁.setTop (mkF m 0 #[.val (.ref a1), .val (.long q2), .second, .unset, .unset] [])) _
    refine XS.aloadN X0.here hx rfl (hb hby d13_0) rfl rfl ?_
    show Steps p.tables e below (s₁.setTop (mkF m 1 #[.val (.ref a1), .val (.long q2), .second, .unset, .unset] [(.ref a1)])) _
    refine st4 _ ?_
    show Steps p.tables e below (T4.setTop (mkF m 4 #[.val (.ref a1), .val (.long q2), .second, .unset, .unset] [(.ref w3)])) _
    refine X4.arraylength hx (by rw [e4]; exact Ar_w3.1) (State.isArrayOf_alike hZ.alike Ar_w3.2.1) (g := (mkF m 4 #[.val (.ref a1), .val (.long q2), .second, .unset, .unset] [(.ref w3)])) rfl rfl (hb hby d13_4) _ ?_
    rw [len_of S_w3 N_w3]
    show Steps p.tables e below (T4.setTop (mkF m 5 #[.val (.ref a1), .val (.long q2), .second, .unset, .unset] [(.int z_w3)])) _
    refine XS.iconst X4.here hx rfl (hb hby d13_5) ?_
    show Steps p.tables e below (T4.setTop (mkF m 6 #[.val (.ref a1), .val (.long q2), .second, .unset, .unset] [(.int (1 : Int32)), (.int z_w3)])) _
    refine XS.isub X4.here hx rfl (hb hby d13_6) rfl ?_
    show Steps p.tables e below (T4.setTop (mkF m 7 #[.val (.ref a1), .val (.long q2), .second, .unset, .unset] [(.int (z_w3 - (1 : Int32)))])) _
    refine XS.istoreN X4.here hx rfl (hb hby d13_7) rfl (l' := #[.val (.ref a1), .val (.long q2), .second, .val (.int (z_w3 - (1 : Int32))), .unset]) rfl ?_
    show Steps p.tables e below (T4.setTop (mkF m 8 #[.val (.ref a1), .val (.long q2), .second, .val (.int (z_w3 - (1 : Int32))), .unset] [])) _
    refine XS.lloadN X4.here hx rfl (hb hby d13_8) rfl ?_
    show Steps p.tables e below (T4.setTop (mkF m 9 #[.val (.ref a1), .val (.long q2), .second, .val (.int (z_w3 - (1 : Int32))), .unset] [(.long q2)])) _
    refine X4.ldc2Long hx hown (mvT hZ (hw _ (List.mem_of_getElem? (i := 67) rfl))) (g := (mkF m 9 #[.val (.ref a1), .val (.long q2), .second, .val (.int (z_w3 - (1 : Int32))), .unset] [(.long q2)])) rfl (hb hby d13_9) _ ?_
    show Steps p.tables e below (T4.setTop (mkF m 12 #[.val (.ref a1), .val (.long q2), .second, .val (.int (z_w3 - (1 : Int32))), .unset] [(.long (-7046029254386353131 : Int64)), (.long q2)])) _
    refine XS.lmul X4.here hx rfl (hb hby d13_12) rfl ?_
    show Steps p.tables e below (T4.setTop (mkF m 13 #[.val (.ref a1), .val (.long q2), .second, .val (.int (z_w3 - (1 : Int32))), .unset] [(.long (q2 * (-7046029254386353131 : Int64)))])) _
    refine XS.iloadN X4.here hx rfl (hb hby d13_13) rfl ?_
    show Steps p.tables e below (T4.setTop (mkF m 14 #[.val (.ref a1), .val (.long q2), .second, .val (.int (z_w3 - (1 : Int32))), .unset] [(.int (z_w3 - (1 : Int32))), (.long (q2 * (-7046029254386353131 : Int64)))])) _
    refine XS.i2l X4.here hx rfl (hb hby d13_14) rfl ?_
    show Steps p.tables e below (T4.setTop (mkF m 15 #[.val (.ref a1), .val (.long q2), .second, .val (.int (z_w3 - (1 : Int32))), .unset] [(.long ((z_w3 - (1 : Int32)).toInt64)), (.long (q2 * (-7046029254386353131 : Int64)))])) _
    refine st5 _ ?_
    show Steps p.tables e below (T5.setTop (mkF m 18 #[.val (.ref a1), .val (.long q2), .second, .val (.int (z_w3 - (1 : Int32))), .unset] [(.int r5), (.long (q2 * (-7046029254386353131 : Int64)))])) _
    refine XS.lushr X5.here hx rfl (hb hby d13_18) rfl ?_
    show Steps p.tables e below (T5.setTop (mkF m 19 #[.val (.ref a1), .val (.long q2), .second, .val (.int (z_w3 - (1 : Int32))), .unset] [(.long (((q2 * (-7046029254386353131 : Int64)).toUInt64 >>> (r5 &&& 0x3f).toInt64.toUInt64).toInt64))])) _
    refine XS.l2i X5.here hx rfl (hb hby d13_19) rfl ?_
    show Steps p.tables e below (T5.setTop (mkF m 20 #[.val (.ref a1), .val (.long q2), .second, .val (.int (z_w3 - (1 : Int32))), .unset] [(.int ((((q2 * (-7046029254386353131 : Int64)).toUInt64 >>> (r5 &&& 0x3f).toInt64.toUInt64).toInt64).toInt32))])) _
    refine XS.istore X5.here hx rfl (hb hby d13_20) rfl (l' := #[.val (.ref a1), .val (.long q2), .second, .val (.int (z_w3 - (1 : Int32))), .val (.int ((((q2 * (-7046029254386353131 : Int64)).toUInt64 >>> (r5 &&& 0x3f).toInt64.toUInt64).toInt64).toInt32))]) rfl ?_
    show Steps p.tables e below (T5.setTop (mkF m 22 #[.val (.ref a1), .val (.long q2), .second, .val (.int (z_w3 - (1 : Int32))), .val (.int ((((q2 * (-7046029254386353131 : Int64)).toUInt64 >>> (r5 &&& 0x3f).toInt64.toUInt64).toInt64).toInt32))] [])) _
    refine XS.aloadN X5.here hx rfl (hb hby d13_22) rfl rfl ?_
    show Steps p.tables e below (T5.setTop (mkF m 23 #[.val (.ref a1), .val (.long q2), .second, .val (.int (z_w3 - (1 : Int32))), .val (.int ((((q2 * (-7046029254386353131 : Int64)).toUInt64 >>> (r5 &&& 0x3f).toInt64.toUInt64).toInt64).toInt32))] [(.ref a1)])) _
    refine st7 _ ?_
    show Steps p.tables e below (T7.setTop (mkF m 26 #[.val (.ref a1), .val (.long q2), .second, .val (.int (z_w3 - (1 : Int32))), .val (.int ((((q2 * (-7046029254386353131 : Int64)).toUInt64 >>> (r5 &&& 0x3f).toInt64.toUInt64).toInt64).toInt32))] [(.ref w6)])) _
    refine XS.iload X7.here hx rfl (hb hby d13_26) rfl ?_
    show Steps p.tables e below (T7.setTop (mkF m 28 #[.val (.ref a1), .val (.long q2), .second, .val (.int (z_w3 - (1 : Int32))), .val (.int ((((q2 * (-7046029254386353131 : Int64)).toUInt64 >>> (r5 &&& 0x3f).toInt64.toUInt64).toInt64).toInt32))] [(.int ((((q2 * (-7046029254386353131 : Int64)).toUInt64 >>> (r5 &&& 0x3f).toInt64.toUInt64).toInt64).toInt32)), (.ref w6)])) _
    refine X7.laload hx (j := ((((q2 * (-7046029254386353131 : Int64)).toUInt64 >>> (r5 &&& 0x3f).toInt64.toUInt64).toInt64).toInt32)) (v := (.long w8)) (by rw [e7]; exact Ar_w6.1) (State.isArrayOf_alike hZ.alike Ar_w6.2.1) Ar_w6.2.2 hin28 hat28 (g := (mkF m 28 #[.val (.ref a1), .val (.long q2), .second, .val (.int (z_w3 - (1 : Int32))), .val (.int ((((q2 * (-7046029254386353131 : Int64)).toUInt64 >>> (r5 &&& 0x3f).toInt64.toUInt64).toInt64).toInt32))] [(.int ((((q2 * (-7046029254386353131 : Int64)).toUInt64 >>> (r5 &&& 0x3f).toInt64.toUInt64).toInt64).toInt32)), (.ref w6)])) rfl rfl (hb hby d13_28) _ ?_
    show Steps p.tables e below (T7.setTop (mkF m 29 #[.val (.ref a1), .val (.long q2), .second, .val (.int (z_w3 - (1 : Int32))), .val (.int ((((q2 * (-7046029254386353131 : Int64)).toUInt64 >>> (r5 &&& 0x3f).toInt64.toUInt64).toInt64).toInt32))] [(.long w8)])) _
    refine XS.lconst X7.here hx rfl (hb hby d13_29) ?_
    show Steps p.tables e below (T7.setTop (mkF m 30 #[.val (.ref a1), .val (.long q2), .second, .val (.int (z_w3 - (1 : Int32))), .val (.int ((((q2 * (-7046029254386353131 : Int64)).toUInt64 >>> (r5 &&& 0x3f).toInt64.toUInt64).toInt64).toInt32))] [(.long (0 : Int64)), (.long w8)])) _
    refine XS.lcmp X7.here hx rfl (hb hby d13_30) rfl ?_
    show Steps p.tables e below (T7.setTop (mkF m 31 #[.val (.ref a1), .val (.long q2), .second, .val (.int (z_w3 - (1 : Int32))), .val (.int ((((q2 * (-7046029254386353131 : Int64)).toUInt64 >>> (r5 &&& 0x3f).toInt64.toUInt64).toInt64).toInt32))] [(.int (lcmpW w8 (0 : Int64)))])) _
    refine XS.ifNo X7.here hx rfl (hb hby d13_31) rfl ((if0 _ _).trans (feq hc31).1) ?_
    show Steps p.tables e below (T7.setTop (mkF m 34 #[.val (.ref a1), .val (.long q2), .second, .val (.int (z_w3 - (1 : Int32))), .val (.int ((((q2 * (-7046029254386353131 : Int64)).toUInt64 >>> (r5 &&& 0x3f).toInt64.toUInt64).toInt64).toInt32))] [])) _
    refine XS.aloadN X7.here hx rfl (hb hby d13_34) rfl rfl ?_
    show Steps p.tables e below (T7.setTop (mkF m 35 #[.val (.ref a1), .val (.long q2), .second, .val (.int (z_w3 - (1 : Int32))), .val (.int ((((q2 * (-7046029254386353131 : Int64)).toUInt64 >>> (r5 &&& 0x3f).toInt64.toUInt64).toInt64).toInt32))] [(.ref a1)])) _
    refine st9 _ ?_
    show Steps p.tables e below (T9.setTop (mkF m 38 #[.val (.ref a1), .val (.long q2), .second, .val (.int (z_w3 - (1 : Int32))), .val (.int ((((q2 * (-7046029254386353131 : Int64)).toUInt64 >>> (r5 &&& 0x3f).toInt64.toUInt64).toInt64).toInt32))] [(.ref w3)])) _
    refine XS.iload X9.here hx rfl (hb hby d13_38) rfl ?_
    show Steps p.tables e below (T9.setTop (mkF m 40 #[.val (.ref a1), .val (.long q2), .second, .val (.int (z_w3 - (1 : Int32))), .val (.int ((((q2 * (-7046029254386353131 : Int64)).toUInt64 >>> (r5 &&& 0x3f).toInt64.toUInt64).toInt64).toInt32))] [(.int ((((q2 * (-7046029254386353131 : Int64)).toUInt64 >>> (r5 &&& 0x3f).toInt64.toUInt64).toInt64).toInt32)), (.ref w3)])) _
    refine X9.laload hx (j := ((((q2 * (-7046029254386353131 : Int64)).toUInt64 >>> (r5 &&& 0x3f).toInt64.toUInt64).toInt64).toInt32)) (v := (.long w10)) (by rw [e9]; exact Ar_w3.1) (State.isArrayOf_alike hZ.alike Ar_w3.2.1) Ar_w3.2.2 hin40 hat40 (g := (mkF m 40 #[.val (.ref a1), .val (.long q2), .second, .val (.int (z_w3 - (1 : Int32))), .val (.int ((((q2 * (-7046029254386353131 : Int64)).toUInt64 >>> (r5 &&& 0x3f).toInt64.toUInt64).toInt64).toInt32))] [(.int ((((q2 * (-7046029254386353131 : Int64)).toUInt64 >>> (r5 &&& 0x3f).toInt64.toUInt64).toInt64).toInt32)), (.ref w3)])) rfl rfl (hb hby d13_40) _ ?_
    show Steps p.tables e below (T9.setTop (mkF m 41 #[.val (.ref a1), .val (.long q2), .second, .val (.int (z_w3 - (1 : Int32))), .val (.int ((((q2 * (-7046029254386353131 : Int64)).toUInt64 >>> (r5 &&& 0x3f).toInt64.toUInt64).toInt64).toInt32))] [(.long w10)])) _
    refine XS.lloadN X9.here hx rfl (hb hby d13_41) rfl ?_
    show Steps p.tables e below (T9.setTop (mkF m 42 #[.val (.ref a1), .val (.long q2), .second, .val (.int (z_w3 - (1 : Int32))), .val (.int ((((q2 * (-7046029254386353131 : Int64)).toUInt64 >>> (r5 &&& 0x3f).toInt64.toUInt64).toInt64).toInt32))] [(.long q2), (.long w10)])) _
    refine XS.lcmp X9.here hx rfl (hb hby d13_42) rfl ?_
    show Steps p.tables e below (T9.setTop (mkF m 43 #[.val (.ref a1), .val (.long q2), .second, .val (.int (z_w3 - (1 : Int32))), .val (.int ((((q2 * (-7046029254386353131 : Int64)).toUInt64 >>> (r5 &&& 0x3f).toInt64.toUInt64).toInt64).toInt32))] [(.int (lcmpW w10 q2))])) _
    refine XS.ifYes X9.here hx rfl (pc0 := 43) (pc' := 57) rfl (hb hby d13_43) rfl ((if0 _ _).trans (teq hc43).1) (by decide) (by decide) ?_
    show Steps p.tables e below (T9.setTop (mkF m 57 #[.val (.ref a1), .val (.long q2), .second, .val (.int (z_w3 - (1 : Int32))), .val (.int ((((q2 * (-7046029254386353131 : Int64)).toUInt64 >>> (r5 &&& 0x3f).toInt64.toUInt64).toInt64).toInt32))] [])) _
    refine XS.iload X9.here hx rfl (hb hby d13_57) rfl ?_
    show Steps p.tables e below (T9.setTop (mkF m 59 #[.val (.ref a1), .val (.long q2), .second, .val (.int (z_w3 - (1 : Int32))), .val (.int ((((q2 * (-7046029254386353131 : Int64)).toUInt64 >>> (r5 &&& 0x3f).toInt64.toUInt64).toInt64).toInt32))] [(.int ((((q2 * (-7046029254386353131 : Int64)).toUInt64 >>> (r5 &&& 0x3f).toInt64.toUInt64).toInt64).toInt32))])) _
    exact retI X9 hx Bd.returns (hb hby d13_59) hr
  · show own_Q (some (.int ((((q2 * (-7046029254386353131 : Int64)).toUInt64 >>> (r5 &&& 0x3f).toInt64.toUInt64).toInt64).toInt32))) h0 n0 _ T9.heap _
    rw [e9]
    exact ⟨rfl, N5, rfl⟩
theorem d13_46 : decode prog_41_method_3_code 46 = .ok (.iload 4, 2) := by decide +kernel
theorem d13_48 : decode prog_41_method_3_code 48 = .ok (.iconst 1, 1) := by decide +kernel
theorem d13_49 : decode prog_41_method_3_code 49 = .ok (.iadd, 1) := by decide +kernel
theorem d13_50 : decode prog_41_method_3_code 50 = .ok (.iload_n 3, 1) := by decide +kernel
theorem d13_51 : decode prog_41_method_3_code 51 = .ok (.iand, 1) := by decide +kernel
theorem d13_52 : decode prog_41_method_3_code 52 = .ok (.istore 4, 2) := by decide +kernel
theorem d13_54 : decode prog_41_method_3_code 54 = .ok (.goto (-32), 3) := by decide +kernel
set_option maxRecDepth 65536 in
set_option maxHeartbeats 40000000 in
theorem rm13_fft (l : Launch) (Z : State) (a0 : Array Value) (hw : ∀ d ∈ tables_1, d.before a0 Z = true) (ws : List Jvm.Cond) (a1 : Addr) (q2 : Int64) (w3 : Addr) (cl_w3 : Cell) (z_w3 : Int32) (r5 : Int32) (w6 : Addr) (w8 : Int64) (cl_w6 : Cell) (w10 : Int64) (w12 : Int64) (h0 : Heap) (n0 : Nat) (Z0 : n0 ≤ h0.size) (F_keys_a1 : Fld Z h0 a1 "com/example/crackline/crackline/SeenValues" "keys" "[J" (.ref w3)) (Ar_w3 : Arr Z h0 w3 cl_w3 .long) (S_w3 : cl_w3.slots.size = z_w3.toNatClampNeg) (N_w3 : ¬ z_w3 < 0) (Hm5 : M14 l Z [] ((z_w3 - (1 : Int32)).toInt64) h0 n0 (some (.int r5))) (F_words_a1 : Fld Z h0 a1 "com/example/crackline/crackline/SeenValues" "words" "[J" (.ref w6)) (Ar_w6 : Arr Z h0 w6 cl_w6 .long) (hin28 : ¬ (((((q2 * (-7046029254386353131 : Int64)).toUInt64 >>> (r5 &&& 0x3f).toInt64.toUInt64).toInt64).toInt32) < 0 ∨ cl_w6.slots.size ≤ (((((q2 * (-7046029254386353131 : Int64)).toUInt64 >>> (r5 &&& 0x3f).toInt64.toUInt64).toInt64).toInt32)).toNatClampNeg)) (hat28 : cl_w6.slots[(((((q2 * (-7046029254386353131 : Int64)).toUInt64 >>> (r5 &&& 0x3f).toInt64.toUInt64).toInt64).toInt32)).toNatClampNeg]? = some (.long w8)) (hin40 : ¬ (((((q2 * (-7046029254386353131 : Int64)).toUInt64 >>> (r5 &&& 0x3f).toInt64.toUInt64).toInt64).toInt32) < 0 ∨ cl_w3.slots.size ≤ (((((q2 * (-7046029254386353131 : Int64)).toUInt64 >>> (r5 &&& 0x3f).toInt64.toUInt64).toInt64).toInt32)).toNatClampNeg)) (hat40 : cl_w3.slots[(((((q2 * (-7046029254386353131 : Int64)).toUInt64 >>> (r5 &&& 0x3f).toInt64.toUInt64).toInt64).toInt32)).toNatClampNeg]? = some (.long w10)) (hin28b : ¬ (((((((q2 * (-7046029254386353131 : Int64)).toUInt64 >>> (r5 &&& 0x3f).toInt64.toUInt64).toInt64).toInt32) + (1 : Int32)) &&& (z_w3 - (1 : Int32))) < 0 ∨ cl_w6.slots.size ≤ (((((((q2 * (-7046029254386353131 : Int64)).toUInt64 >>> (r5 &&& 0x3f).toInt64.toUInt64).toInt64).toInt32) + (1 : Int32)) &&& (z_w3 - (1 : Int32)))).toNatClampNeg)) (hat28b : cl_w6.slots[(((((((q2 * (-7046029254386353131 : Int64)).toUInt64 >>> (r5 &&& 0x3f).toInt64.toUInt64).toInt64).toInt32) + (1 : Int32)) &&& (z_w3 - (1 : Int32)))).toNatClampNeg]? = some (.long w12)) (hc31 : ¬ ((lcmpW w8 (0 : Int64)) = (0 : Int32))) (hc43 : ¬ ((lcmpW w10 q2) = (0 : Int32))) (hc31b : (lcmpW w12 (0 : Int64)) = (0 : Int32)) :
    M13 l Z ws a1 q2 h0 n0 (some (.int ((((((q2 * (-7046029254386353131 : Int64)).toUInt64 >>> (r5 &&& 0x3f).toInt64.toUInt64).toInt64).toInt32) + (1 : Int32)) &&& (z_w3 - (1 : Int32))))) := by
  refine MetFree.of_bodySF (plainFor_of_name pn_13) hisR ?_
  intro p e s m args below meth c s₁ Bd hml0 hP hK
  obtain ⟨rfl, hZ, hh⟩ := hP
  have hx := Bd.exec
  have hby := Bd.bytes
  have hml : c.maxLocals = 5 := hml0
  have hown : s.vm.findClass "com/example/crackline/crackline/SeenValues" = some m.cls := findClass_of_methodNamed Bd.named
  have hnm := (name_of_methodNamed Bd.named Bd.method).1
  have X0 : Stand p l e ({ frames := 2, cells := 0, slots := 0, locals := 30 } : Room) s m #[(.ref a1), (.long q2)] below meth c s₁ [] 0 0 := Stand.of_body Bd
  have e0 : s₁.heap = h0 := by rw [← hh, Bd.state]; rfl
  have N0 := Fr.nil n0
  have pre0 : ∀ t, Steps p.tables e below (s₁.setTop (mkF m 0 #[.val (.ref a1), .val (.long q2), .second, .unset, .unset] [])) t → Steps p.tables e below (s₁.setTop (entryFrame m #[(.ref a1), (.long q2)] 5)) t := fun t k => castTop (ef_13 m a1 q2) k
  obtain ⟨T4, X4, e4, st4⟩ := getF X0 hx hZ hown (host := "") (Or.inl (hw _ (List.mem_of_getElem? (i := 20) rfl))) Via.refl e0 F_keys_a1 (g := (mkF m 1 #[.val (.ref a1), .val (.long q2), .second, .unset, .unset] [(.ref a1)])) rfl rfl (hb hby d13_1)
  obtain ⟨_, _, ⟨T5, L5, k5, n5⟩, -, X5, ⟨Lc5, hQ5, l5, y5, z5⟩, st5⟩ := Jvm.LawKit.callS X4 hx (y := (⟨"java/lang/Long", "numberOfLeadingZeros", "(J)I"⟩ : MethodName)) hown (mvT hZ (hw _ (List.mem_of_getElem? (i := 68) rfl))) (mvT hZ (hw _ (List.mem_of_getElem? (i := 69) rfl))) (mvT hZ (hw _ (List.mem_of_getElem? (i := 70) rfl))) (mvT hZ (hw _ (List.mem_of_getElem? (i := 71) rfl))) (by decide) (backOf (W := 2) Hm5 hZ (hw _ (List.mem_of_getElem? (i := 71) rfl)) (hw _ (List.mem_of_getElem? (i := 70) rfl)) (by decide) (by decide)) (g := (mkF m 15 #[.val (.ref a1), .val (.long q2), .second, .val (.int (z_w3 - (1 : Int32))), .unset] [(.long ((z_w3 - (1 : Int32)).toInt64)), (.long (q2 * (-7046029254386353131 : Int64)))])) rfl (by rw [hml]; rfl) (argsL := [(.long ((z_w3 - (1 : Int32)).toInt64))]) (rest := [(.long (q2 * (-7046029254386353131 : Int64)))]) (lenOf pd_13_7 rfl) rfl (by show 2 * 0 + _ ≤ _; exact Nat.le_of_eq rfl) (hb hby d13_15) (fun _ _ => ⟨rfl, e4, (by decide : 0 + 0 ≤ _), (by decide : 0 + 0 ≤ _)⟩)
  dsimp only [Pt.U, Pt.locs, Pt.cells, Pt.slots] at X5 l5 y5 z5 st5 hQ5
  subst l5 y5 z5
  obtain ⟨rfl, N5q, hh5⟩ := hQ5
  have N5 := Fr.app N0 N5q
  obtain ⟨T7, X7, e7, st7⟩ := getF X5 hx hZ hown (host := "") (Or.inl (hw _ (List.mem_of_getElem? (i := 22) rfl))) Via.refl hh5 F_words_a1 (g := (mkF m 23 #[.val (.ref a1), .val (.long q2), .second, .val (.int (z_w3 - (1 : Int32))), .val (.int ((((q2 * (-7046029254386353131 : Int64)).toUInt64 >>> (r5 &&& 0x3f).toInt64.toUInt64).toInt64).toInt32))] [(.ref a1)])) rfl rfl (hb hby d13_23)
  obtain ⟨T9, X9, e9, st9⟩ := getF X7 hx hZ hown (host := "") (Or.inl (hw _ (List.mem_of_getElem? (i := 20) rfl))) Via.refl e7 F_keys_a1 (g := (mkF m 35 #[.val (.ref a1), .val (.long q2), .second, .val (.int (z_w3 - (1 : Int32))), .val (.int ((((q2 * (-7046029254386353131 : Int64)).toUInt64 >>> (r5 &&& 0x3f).toInt64.toUInt64).toInt64).toInt32))] [(.ref a1)])) rfl rfl (hb hby d13_35)
  obtain ⟨T11, X11, e11, st11⟩ := getF X9 hx hZ hown (host := "") (Or.inl (hw _ (List.mem_of_getElem? (i := 22) rfl))) Via.refl e9 F_words_a1 (g := (mkF m 23 #[.val (.ref a1), .val (.long q2), .second, .val (.int (z_w3 - (1 : Int32))), .val (.int ((((((q2 * (-7046029254386353131 : Int64)).toUInt64 >>> (r5 &&& 0x3f).toInt64.toUInt64).toInt64).toInt32) + (1 : Int32)) &&& (z_w3 - (1 : Int32))))] [(.ref a1)])) rfl rfl (hb hby d13_23)
  obtain ⟨fs, hr, hrun, hended, hW, hsame⟩ := X11.leave (v := some (.int ((((((q2 * (-7046029254386353131 : Int64)).toUInt64 >>> (r5 &&& 0x3f).toInt64.toUInt64).toInt64).toInt32) + (1 : Int32)) &&& (z_w3 - (1 : Int32))))) (fun h => by rw [Bd.returns] at h; cases h)
  refine ⟨_, _, pre0 _ ?_, hrun, hended, _, _, rfl, ?_, ⟨_, rfl⟩, hW, hsame.mono (by decide) (by decide)⟩
  · show Steps p.tables e below (s₁.setTop (mkF m 0 #[.val (.ref a1), .val (.long q2), .second, .unset, .unset] [])) _
    refine XS.aloadN X0.here hx rfl (hb hby d13_0) rfl rfl ?_
    show Steps p.tables e below (s₁.setTop (mkF m 1 #[.val (.ref a1), .val (.long q2), .second, .unset, .unset] [(.ref a1)])) _
    refine st4 _ ?_
    show Steps p.tables e below (T4.setTop (mkF m 4 #[.val (.ref a1), .val (.long q2), .second, .unset, .unset] [(.ref w3)])) _
    refine X4.arraylength hx (by rw [e4]; exact Ar_w3.1) (State.isArrayOf_alike hZ.alike Ar_w3.2.1) (g := (mkF m 4 #[.val (.ref a1), .val (.long q2), .second, .unset, .unset] [(.ref w3)])) rfl rfl (hb hby d13_4) _ ?_
    rw [len_of S_w3 N_w3]
    show Steps p.tables e below (T4.setTop (mkF m 5 #[.val (.ref a1), .val (.long q2), .second, .unset, .unset] [(.int z_w3)])) _
    refine XS.iconst X4.here hx rfl (hb hby d13_5) ?_
    show Steps p.tables e below (T4.setTop (mkF m 6 #[.val (.ref a1), .val (.long q2), .second, .unset, .unset] [(.int (1 : Int32)), (.int z_w3)])) _
    refine XS.isub X4.here hx rfl (hb hby d13_6) rfl ?_
    show Steps p.tables e below (T4.setTop (mkF m 7 #[.val (.ref a1), .val (.long q2), .second, .unset, .unset] [(.int (z_w3 - (1 : Int32)))])) _
    refine XS.istoreN X4.here hx rfl (hb hby d13_7) rfl (l' := #[.val (.ref a1), .val (.long q2), .second, .val (.int (z_w3 - (1 : Int32))), .unset]) rfl ?_
    show Steps p.tables e below (T4.setTop (mkF m 8 #[.val (.ref a1), .val (.long q2), .second, .val (.int (z_w3 - (1 : Int32))), .unset] [])) _
    refine XS.lloadN X4.here hx rfl (hb hby d13_8) rfl ?_
    show Steps p.tables e below (T4.setTop (mkF m 9 #[.val (.ref a1), .val (.long q2), .second, .val (.int (z_w3 - (1 : Int32))), .unset] [(.long q2)])) _
    refine X4.ldc2Long hx hown (mvT hZ (hw _ (List.mem_of_getElem? (i := 67) rfl))) (g := (mkF m 9 #[.val (.ref a1), .val (.long q2), .second, .val (.int (z_w3 - (1 : Int32))), .unset] [(.long q2)])) rfl (hb hby d13_9) _ ?_
    show Steps p.tables e below (T4.setTop (mkF m 12 #[.val (.ref a1), .val (.long q2), .second, .val (.int (z_w3 - (1 : Int32))), .unset] [(.long (-7046029254386353131 : Int64)), (.long q2)])) _
    refine XS.lmul X4.here hx rfl (hb hby d13_12) rfl ?_
    show Steps p.tables e below (T4.setTop (mkF m 13 #[.val (.ref a1), .val (.long q2), .second, .val (.int (z_w3 - (1 : Int32))), .unset] [(.long (q2 * (-7046029254386353131 : Int64)))])) _
    refine XS.iloadN X4.here hx rfl (hb hby d13_13) rfl ?_
    show Steps p.tables e below (T4.setTop (mkF m 14 #[.val (.ref a1), .val (.long q2), .second, .val (.int (z_w3 - (1 : Int32))), .unset] [(.int (z_w3 - (1 : Int32))), (.long (q2 * (-7046029254386353131 : Int64)))])) _
    refine XS.i2l X4.here hx rfl (hb hby d13_14) rfl ?_
    show Steps p.tables e below (T4.setTop (mkF m 15 #[.val (.ref a1), .val (.long q2), .second, .val (.int (z_w3 - (1 : Int32))), .unset] [(.long ((z_w3 - (1 : Int32)).toInt64)), (.long (q2 * (-7046029254386353131 : Int64)))])) _
    refine st5 _ ?_
    show Steps p.tables e below (T5.setTop (mkF m 18 #[.val (.ref a1), .val (.long q2), .second, .val (.int (z_w3 - (1 : Int32))), .unset] [(.int r5), (.long (q2 * (-7046029254386353131 : Int64)))])) _
    refine XS.lushr X5.here hx rfl (hb hby d13_18) rfl ?_
    show Steps p.tables e below (T5.setTop (mkF m 19 #[.val (.ref a1), .val (.long q2), .second, .val (.int (z_w3 - (1 : Int32))), .unset] [(.long (((q2 * (-7046029254386353131 : Int64)).toUInt64 >>> (r5 &&& 0x3f).toInt64.toUInt64).toInt64))])) _
    refine XS.l2i X5.here hx rfl (hb hby d13_19) rfl ?_
    show Steps p.tables e below (T5.setTop (mkF m 20 #[.val (.ref a1), .val (.long q2), .second, .val (.int (z_w3 - (1 : Int32))), .unset] [(.int ((((q2 * (-7046029254386353131 : Int64)).toUInt64 >>> (r5 &&& 0x3f).toInt64.toUInt64).toInt64).toInt32))])) _
    refine XS.istore X5.here hx rfl (hb hby d13_20) rfl (l' := #[.val (.ref a1), .val (.long q2), .second, .val (.int (z_w3 - (1 : Int32))), .val (.int ((((q2 * (-7046029254386353131 : Int64)).toUInt64 >>> (r5 &&& 0x3f).toInt64.toUInt64).toInt64).toInt32))]) rfl ?_
    show Steps p.tables e below (T5.setTop (mkF m 22 #[.val (.ref a1), .val (.long q2), .second, .val (.int (z_w3 - (1 : Int32))), .val (.int ((((q2 * (-7046029254386353131 : Int64)).toUInt64 >>> (r5 &&& 0x3f).toInt64.toUInt64).toInt64).toInt32))] [])) _
    refine XS.aloadN X5.here hx rfl (hb hby d13_22) rfl rfl ?_
    show Steps p.tables e below (T5.setTop (mkF m 23 #[.val (.ref a1), .val (.long q2), .second, .val (.int (z_w3 - (1 : Int32))), .val (.int ((((q2 * (-7046029254386353131 : Int64)).toUInt64 >>> (r5 &&& 0x3f).toInt64.toUInt64).toInt64).toInt32))] [(.ref a1)])) _
    refine st7 _ ?_
    show Steps p.tables e below (T7.setTop (mkF m 26 #[.val (.ref a1), .val (.long q2), .second, .val (.int (z_w3 - (1 : Int32))), .val (.int ((((q2 * (-7046029254386353131 : Int64)).toUInt64 >>> (r5 &&& 0x3f).toInt64.toUInt64).toInt64).toInt32))] [(.ref w6)])) _
    refine XS.iload X7.here hx rfl (hb hby d13_26) rfl ?_
    show Steps p.tables e below (T7.setTop (mkF m 28 #[.val (.ref a1), .val (.long q2), .second, .val (.int (z_w3 - (1 : Int32))), .val (.int ((((q2 * (-7046029254386353131 : Int64)).toUInt64 >>> (r5 &&& 0x3f).toInt64.toUInt64).toInt64).toInt32))] [(.int ((((q2 * (-7046029254386353131 : Int64)).toUInt64 >>> (r5 &&& 0x3f).toInt64.toUInt64).toInt64).toInt32)), (.ref w6)])) _
    refine X7.laload hx (j := ((((q2 * (-7046029254386353131 : Int64)).toUInt64 >>> (r5 &&& 0x3f).toInt64.toUInt64).toInt64).toInt32)) (v := (.long w8)) (by rw [e7]; exact Ar_w6.1) (State.isArrayOf_alike hZ.alike Ar_w6.2.1) Ar_w6.2.2 hin28 hat28 (g := (mkF m 28 #[.val (.ref a1), .val (.long q2), .second, .val (.int (z_w3 - (1 : Int32))), .val (.int ((((q2 * (-7046029254386353131 : Int64)).toUInt64 >>> (r5 &&& 0x3f).toInt64.toUInt64).toInt64).toInt32))] [(.int ((((q2 * (-7046029254386353131 : Int64)).toUInt64 >>> (r5 &&& 0x3f).toInt64.toUInt64).toInt64).toInt32)), (.ref w6)])) rfl rfl (hb hby d13_28) _ ?_
    show Steps p.tables e below (T7.setTop (mkF m 29 #[.val (.ref a1), .val (.long q2), .second, .val (.int (z_w3 - (1 : Int32))), .val (.int ((((q2 * (-7046029254386353131 : Int64)).toUInt64 >>> (r5 &&& 0x3f).toInt64.toUInt64).toInt64).toInt32))] [(.long w8)])) _
    refine XS.lconst X7.here hx rfl (hb hby d13_29) ?_
    show Steps p.tables e below (T7.setTop (mkF m 30 #[.val (.ref a1), .val (.long q2), .second, .val (.int (z_w3 - (1 : Int32))), .val (.int ((((q2 * (-7046029254386353131 : Int64)).toUInt64 >>> (r5 &&& 0x3f).toInt64.toUInt64).toInt64).toInt32))] [(.long (0 : Int64)), (.long w8)])) _
    refine XS.lcmp X7.here hx rfl (hb hby d13_30) rfl ?_
    show Steps p.tables e below (T7.setTop (mkF m 31 #[.val (.ref a1), .val (.long q2), .second, .val (.int (z_w3 - (1 : Int32))), .val (.int ((((q2 * (-7046029254386353131 : Int64)).toUInt64 >>> (r5 &&& 0x3f).toInt64.toUInt64).toInt64).toInt32))] [(.int (lcmpW w8 (0 : Int64)))])) _
    refine XS.ifNo X7.here hx rfl (hb hby d13_31) rfl ((if0 _ _).trans (feq hc31).1) ?_
    show Steps p.tables e below (T7.setTop (mkF m 34 #[.val (.ref a1), .val (.long q2), .second, .val (.int (z_w3 - (1 : Int32))), .val (.int ((((q2 * (-7046029254386353131 : Int64)).toUInt64 >>> (r5 &&& 0x3f).toInt64.toUInt64).toInt64).toInt32))] [])) _
    refine XS.aloadN X7.here hx rfl (hb hby d13_34) rfl rfl ?_
    show Steps p.tables e below (T7.setTop (mkF m 35 #[.val (.ref a1), .val (.long q2), .second, .val (.int (z_w3 - (1 : Int32))), .val (.int ((((q2 * (-7046029254386353131 : Int64)).toUInt64 >>> (r5 &&& 0x3f).toInt64.toUInt64).toInt64).toInt32))] [(.ref a1)])) _
    refine st9 _ ?_
    show Steps p.tables e below (T9.setTop (mkF m 38 #[.val (.ref a1), .val (.long q2), .second, .val (.int (z_w3 - (1 : Int32))), .val (.int ((((q2 * (-7046029254386353131 : Int64)).toUInt64 >>> (r5 &&& 0x3f).toInt64.toUInt64).toInt64).toInt32))] [(.ref w3)])) _
    refine XS.iload X9.here hx rfl (hb hby d13_38) rfl ?_
    show Steps p.tables e below (T9.setTop (mkF m 40 #[.val (.ref a1), .val (.long q2), .second, .val (.int (z_w3 - (1 : Int32))), .val (.int ((((q2 * (-7046029254386353131 : Int64)).toUInt64 >>> (r5 &&& 0x3f).toInt64.toUInt64).toInt64).toInt32))] [(.int ((((q2 * (-7046029254386353131 : Int64)).toUInt64 >>> (r5 &&& 0x3f).toInt64.toUInt64).toInt64).toInt32)), (.ref w3)])) _
    refine X9.laload hx (j := ((((q2 * (-7046029254386353131 : Int64)).toUInt64 >>> (r5 &&& 0x3f).toInt64.toUInt64).toInt64).toInt32)) (v := (.long w10)) (by rw [e9]; exact Ar_w3.1) (State.isArrayOf_alike hZ.alike Ar_w3.2.1) Ar_w3.2.2 hin40 hat40 (g := (mkF m 40 #[.val (.ref a1), .val (.long q2), .second, .val (.int (z_w3 - (1 : Int32))), .val (.int ((((q2 * (-7046029254386353131 : Int64)).toUInt64 >>> (r5 &&& 0x3f).toInt64.toUInt64).toInt64).toInt32))] [(.int ((((q2 * (-7046029254386353131 : Int64)).toUInt64 >>> (r5 &&& 0x3f).toInt64.toUInt64).toInt64).toInt32)), (.ref w3)])) rfl rfl (hb hby d13_40) _ ?_
    show Steps p.tables e below (T9.setTop (mkF m 41 #[.val (.ref a1), .val (.long q2), .second, .val (.int (z_w3 - (1 : Int32))), .val (.int ((((q2 * (-7046029254386353131 : Int64)).toUInt64 >>> (r5 &&& 0x3f).toInt64.toUInt64).toInt64).toInt32))] [(.long w10)])) _
    refine XS.lloadN X9.here hx rfl (hb hby d13_41) rfl ?_
    show Steps p.tables e below (T9.setTop (mkF m 42 #[.val (.ref a1), .val (.long q2), .second, .val (.int (z_w3 - (1 : Int32))), .val (.int ((((q2 * (-7046029254386353131 : Int64)).toUInt64 >>> (r5 &&& 0x3f).toInt64.toUInt64).toInt64).toInt32))] [(.long q2), (.long w10)])) _
    refine XS.lcmp X9.here hx rfl (hb hby d13_42) rfl ?_
    show Steps p.tables e below (T9.setTop (mkF m 43 #[.val (.ref a1), .val (.long q2), .second, .val (.int (z_w3 - (1 : Int32))), .val (.int ((((q2 * (-7046029254386353131 : Int64)).toUInt64 >>> (r5 &&& 0x3f).toInt64.toUInt64).toInt64).toInt32))] [(.int (lcmpW w10 q2))])) _
    refine XS.ifNo X9.here hx rfl (hb hby d13_43) rfl ((if0 _ _).trans (feq hc43).1) ?_
    show Steps p.tables e below (T9.setTop (mkF m 46 #[.val (.ref a1), .val (.long q2), .second, .val (.int (z_w3 - (1 : Int32))), .val (.int ((((q2 * (-7046029254386353131 : Int64)).toUInt64 >>> (r5 &&& 0x3f).toInt64.toUInt64).toInt64).toInt32))] [])) _
    refine XS.iload X9.here hx rfl (hb hby d13_46) rfl ?_
    show Steps p.tables e below (T9.setTop (mkF m 48 #[.val (.ref a1), .val (.long q2), .second, .val (.int (z_w3 - (1 : Int32))), .val (.int ((((q2 * (-7046029254386353131 : Int64)).toUInt64 >>> (r5 &&& 0x3f).toInt64.toUInt64).toInt64).toInt32))] [(.int ((((q2 * (-7046029254386353131 : Int64)).toUInt64 >>> (r5 &&& 0x3f).toInt64.toUInt64).toInt64).toInt32))])) _
    refine XS.iconst X9.here hx rfl (hb hby d13_48) ?_
    show Steps p.tables e below (T9.setTop (mkF m 49 #[.val (.ref a1), .val (.long q2), .second, .val (.int (z_w3 - (1 : Int32))), .val (.int ((((q2 * (-7046029254386353131 : Int64)).toUInt64 >>> (r5 &&& 0x3f).toInt64.toUInt64).toInt64).toInt32))] [(.int (1 : Int32)), (.int ((((q2 * (-7046029254386353131 : Int64)).toUInt64 >>> (r5 &&& 0x3f).toInt64.toUInt64).toInt64).toInt32))])) _
    refine XS.iadd X9.here hx rfl (hb hby d13_49) rfl ?_
    show Steps p.tables e below (T9.setTop (mkF m 50 #[.val (.ref a1), .val (.long q2), .second, .val (.int (z_w3 - (1 : Int32))), .val (.int ((((q2 * (-7046029254386353131 : Int64)).toUInt64 >>> (r5 &&& 0x3f).toInt64.toUInt64).toInt64).toInt32))] [(.int (((((q2 * (-7046029254386353131 : Int64)).toUInt64 >>> (r5 &&& 0x3f).toInt64.toUInt64).toInt64).toInt32) + (1 : Int32)))])) _
    refine XS.iloadN X9.here hx rfl (hb hby d13_50) rfl ?_
    show Steps p.tables e below (T9.setTop (mkF m 51 #[.val (.ref a1), .val (.long q2), .second, .val (.int (z_w3 - (1 : Int32))), .val (.int ((((q2 * (-7046029254386353131 : Int64)).toUInt64 >>> (r5 &&& 0x3f).toInt64.toUInt64).toInt64).toInt32))] [(.int (z_w3 - (1 : Int32))), (.int (((((q2 * (-7046029254386353131 : Int64)).toUInt64 >>> (r5 &&& 0x3f).toInt64.toUInt64).toInt64).toInt32) + (1 : Int32)))])) _
    refine XS.iand X9.here hx rfl (hb hby d13_51) rfl ?_
    show Steps p.tables e below (T9.setTop (mkF m 52 #[.val (.ref a1), .val (.long q2), .second, .val (.int (z_w3 - (1 : Int32))), .val (.int ((((q2 * (-7046029254386353131 : Int64)).toUInt64 >>> (r5 &&& 0x3f).toInt64.toUInt64).toInt64).toInt32))] [(.int ((((((q2 * (-7046029254386353131 : Int64)).toUInt64 >>> (r5 &&& 0x3f).toInt64.toUInt64).toInt64).toInt32) + (1 : Int32)) &&& (z_w3 - (1 : Int32))))])) _
    refine XS.istore X9.here hx rfl (hb hby d13_52) rfl (l' := #[.val (.ref a1), .val (.long q2), .second, .val (.int (z_w3 - (1 : Int32))), .val (.int ((((((q2 * (-7046029254386353131 : Int64)).toUInt64 >>> (r5 &&& 0x3f).toInt64.toUInt64).toInt64).toInt32) + (1 : Int32)) &&& (z_w3 - (1 : Int32))))]) rfl ?_
    show Steps p.tables e below (T9.setTop (mkF m 54 #[.val (.ref a1), .val (.long q2), .second, .val (.int (z_w3 - (1 : Int32))), .val (.int ((((((q2 * (-7046029254386353131 : Int64)).toUInt64 >>> (r5 &&& 0x3f).toInt64.toUInt64).toInt64).toInt32) + (1 : Int32)) &&& (z_w3 - (1 : Int32))))] [])) _
    refine XS.goto X9.here hx rfl (pc0 := 54) (pc' := 22) rfl (hb hby d13_54) (by decide) (by decide) ?_
    show Steps p.tables e below (T9.setTop (mkF m 22 #[.val (.ref a1), .val (.long q2), .second, .val (.int (z_w3 - (1 : Int32))), .val (.int ((((((q2 * (-7046029254386353131 : Int64)).toUInt64 >>> (r5 &&& 0x3f).toInt64.toUInt64).toInt64).toInt32) + (1 : Int32)) &&& (z_w3 - (1 : Int32))))] [])) _
    refine XS.aloadN X9.here hx rfl (hb hby d13_22) rfl rfl ?_
    show Steps p.tables e below (T9.setTop (mkF m 23 #[.val (.ref a1), .val (.long q2), .second, .val (.int (z_w3 - (1 : Int32))), .val (.int ((((((q2 * (-7046029254386353131 : Int64)).toUInt64 >>> (r5 &&& 0x3f).toInt64.toUInt64).toInt64).toInt32) + (1 : Int32)) &&& (z_w3 - (1 : Int32))))] [(.ref a1)])) _
    refine st11 _ ?_
    show Steps p.tables e below (T11.setTop (mkF m 26 #[.val (.ref a1), .val (.long q2), .second, .val (.int (z_w3 - (1 : Int32))), .val (.int ((((((q2 * (-7046029254386353131 : Int64)).toUInt64 >>> (r5 &&& 0x3f).toInt64.toUInt64).toInt64).toInt32) + (1 : Int32)) &&& (z_w3 - (1 : Int32))))] [(.ref w6)])) _
    refine XS.iload X11.here hx rfl (hb hby d13_26) rfl ?_
    show Steps p.tables e below (T11.setTop (mkF m 28 #[.val (.ref a1), .val (.long q2), .second, .val (.int (z_w3 - (1 : Int32))), .val (.int ((((((q2 * (-7046029254386353131 : Int64)).toUInt64 >>> (r5 &&& 0x3f).toInt64.toUInt64).toInt64).toInt32) + (1 : Int32)) &&& (z_w3 - (1 : Int32))))] [(.int ((((((q2 * (-7046029254386353131 : Int64)).toUInt64 >>> (r5 &&& 0x3f).toInt64.toUInt64).toInt64).toInt32) + (1 : Int32)) &&& (z_w3 - (1 : Int32)))), (.ref w6)])) _
    refine X11.laload hx (j := ((((((q2 * (-7046029254386353131 : Int64)).toUInt64 >>> (r5 &&& 0x3f).toInt64.toUInt64).toInt64).toInt32) + (1 : Int32)) &&& (z_w3 - (1 : Int32)))) (v := (.long w12)) (by rw [e11]; exact Ar_w6.1) (State.isArrayOf_alike hZ.alike Ar_w6.2.1) Ar_w6.2.2 hin28b hat28b (g := (mkF m 28 #[.val (.ref a1), .val (.long q2), .second, .val (.int (z_w3 - (1 : Int32))), .val (.int ((((((q2 * (-7046029254386353131 : Int64)).toUInt64 >>> (r5 &&& 0x3f).toInt64.toUInt64).toInt64).toInt32) + (1 : Int32)) &&& (z_w3 - (1 : Int32))))] [(.int ((((((q2 * (-7046029254386353131 : Int64)).toUInt64 >>> (r5 &&& 0x3f).toInt64.toUInt64).toInt64).toInt32) + (1 : Int32)) &&& (z_w3 - (1 : Int32)))), (.ref w6)])) rfl rfl (hb hby d13_28) _ ?_
    show Steps p.tables e below (T11.setTop (mkF m 29 #[.val (.ref a1), .val (.long q2), .second, .val (.int (z_w3 - (1 : Int32))), .val (.int ((((((q2 * (-7046029254386353131 : Int64)).toUInt64 >>> (r5 &&& 0x3f).toInt64.toUInt64).toInt64).toInt32) + (1 : Int32)) &&& (z_w3 - (1 : Int32))))] [(.long w12)])) _
    refine XS.lconst X11.here hx rfl (hb hby d13_29) ?_
    show Steps p.tables e below (T11.setTop (mkF m 30 #[.val (.ref a1), .val (.long q2), .second, .val (.int (z_w3 - (1 : Int32))), .val (.int ((((((q2 * (-7046029254386353131 : Int64)).toUInt64 >>> (r5 &&& 0x3f).toInt64.toUInt64).toInt64).toInt32) + (1 : Int32)) &&& (z_w3 - (1 : Int32))))] [(.long (0 : Int64)), (.long w12)])) _
    refine XS.lcmp X11.here hx rfl (hb hby d13_30) rfl ?_
    show Steps p.tables e below (T11.setTop (mkF m 31 #[.val (.ref a1), .val (.long q2), .second, .val (.int (z_w3 - (1 : Int32))), .val (.int ((((((q2 * (-7046029254386353131 : Int64)).toUInt64 >>> (r5 &&& 0x3f).toInt64.toUInt64).toInt64).toInt32) + (1 : Int32)) &&& (z_w3 - (1 : Int32))))] [(.int (lcmpW w12 (0 : Int64)))])) _
    refine XS.ifYes X11.here hx rfl (pc0 := 31) (pc' := 57) rfl (hb hby d13_31) rfl ((if0 _ _).trans (teq hc31b).1) (by decide) (by decide) ?_
    show Steps p.tables e below (T11.setTop (mkF m 57 #[.val (.ref a1), .val (.long q2), .second, .val (.int (z_w3 - (1 : Int32))), .val (.int ((((((q2 * (-7046029254386353131 : Int64)).toUInt64 >>> (r5 &&& 0x3f).toInt64.toUInt64).toInt64).toInt32) + (1 : Int32)) &&& (z_w3 - (1 : Int32))))] [])) _
    refine XS.iload X11.here hx rfl (hb hby d13_57) rfl ?_
    show Steps p.tables e below (T11.setTop (mkF m 59 #[.val (.ref a1), .val (.long q2), .second, .val (.int (z_w3 - (1 : Int32))), .val (.int ((((((q2 * (-7046029254386353131 : Int64)).toUInt64 >>> (r5 &&& 0x3f).toInt64.toUInt64).toInt64).toInt32) + (1 : Int32)) &&& (z_w3 - (1 : Int32))))] [(.int ((((((q2 * (-7046029254386353131 : Int64)).toUInt64 >>> (r5 &&& 0x3f).toInt64.toUInt64).toInt64).toInt32) + (1 : Int32)) &&& (z_w3 - (1 : Int32))))])) _
    exact retI X11 hx Bd.returns (hb hby d13_59) hr
  · show own_Q (some (.int ((((((q2 * (-7046029254386353131 : Int64)).toUInt64 >>> (r5 &&& 0x3f).toInt64.toUInt64).toInt64).toInt32) + (1 : Int32)) &&& (z_w3 - (1 : Int32))))) h0 n0 _ T11.heap _
    rw [e11]
    exact ⟨rfl, N5, rfl⟩
set_option maxRecDepth 65536 in
set_option maxHeartbeats 40000000 in
theorem rm13_ffft (l : Launch) (Z : State) (a0 : Array Value) (hw : ∀ d ∈ tables_1, d.before a0 Z = true) (ws : List Jvm.Cond) (a1 : Addr) (q2 : Int64) (w3 : Addr) (cl_w3 : Cell) (z_w3 : Int32) (r5 : Int32) (w6 : Addr) (w8 : Int64) (cl_w6 : Cell) (w10 : Int64) (w12 : Int64) (w14 : Int64) (h0 : Heap) (n0 : Nat) (Z0 : n0 ≤ h0.size) (F_keys_a1 : Fld Z h0 a1 "com/example/crackline/crackline/SeenValues" "keys" "[J" (.ref w3)) (Ar_w3 : Arr Z h0 w3 cl_w3 .long) (S_w3 : cl_w3.slots.size = z_w3.toNatClampNeg) (N_w3 : ¬ z_w3 < 0) (Hm5 : M14 l Z [] ((z_w3 - (1 : Int32)).toInt64) h0 n0 (some (.int r5))) (F_words_a1 : Fld Z h0 a1 "com/example/crackline/crackline/SeenValues" "words" "[J" (.ref w6)) (Ar_w6 : Arr Z h0 w6 cl_w6 .long) (hin28 : ¬ (((((q2 * (-7046029254386353131 : Int64)).toUInt64 >>> (r5 &&& 0x3f).toInt64.toUInt64).toInt64).toInt32) < 0 ∨ cl_w6.slots.size ≤ (((((q2 * (-7046029254386353131 : Int64)).toUInt64 >>> (r5 &&& 0x3f).toInt64.toUInt64).toInt64).toInt32)).toNatClampNeg)) (hat28 : cl_w6.slots[(((((q2 * (-7046029254386353131 : Int64)).toUInt64 >>> (r5 &&& 0x3f).toInt64.toUInt64).toInt64).toInt32)).toNatClampNeg]? = some (.long w8)) (hin40 : ¬ (((((q2 * (-7046029254386353131 : Int64)).toUInt64 >>> (r5 &&& 0x3f).toInt64.toUInt64).toInt64).toInt32) < 0 ∨ cl_w3.slots.size ≤ (((((q2 * (-7046029254386353131 : Int64)).toUInt64 >>> (r5 &&& 0x3f).toInt64.toUInt64).toInt64).toInt32)).toNatClampNeg)) (hat40 : cl_w3.slots[(((((q2 * (-7046029254386353131 : Int64)).toUInt64 >>> (r5 &&& 0x3f).toInt64.toUInt64).toInt64).toInt32)).toNatClampNeg]? = some (.long w10)) (hin28b : ¬ (((((((q2 * (-7046029254386353131 : Int64)).toUInt64 >>> (r5 &&& 0x3f).toInt64.toUInt64).toInt64).toInt32) + (1 : Int32)) &&& (z_w3 - (1 : Int32))) < 0 ∨ cl_w6.slots.size ≤ (((((((q2 * (-7046029254386353131 : Int64)).toUInt64 >>> (r5 &&& 0x3f).toInt64.toUInt64).toInt64).toInt32) + (1 : Int32)) &&& (z_w3 - (1 : Int32)))).toNatClampNeg)) (hat28b : cl_w6.slots[(((((((q2 * (-7046029254386353131 : Int64)).toUInt64 >>> (r5 &&& 0x3f).toInt64.toUInt64).toInt64).toInt32) + (1 : Int32)) &&& (z_w3 - (1 : Int32)))).toNatClampNeg]? = some (.long w12)) (hin40b : ¬ (((((((q2 * (-7046029254386353131 : Int64)).toUInt64 >>> (r5 &&& 0x3f).toInt64.toUInt64).toInt64).toInt32) + (1 : Int32)) &&& (z_w3 - (1 : Int32))) < 0 ∨ cl_w3.slots.size ≤ (((((((q2 * (-7046029254386353131 : Int64)).toUInt64 >>> (r5 &&& 0x3f).toInt64.toUInt64).toInt64).toInt32) + (1 : Int32)) &&& (z_w3 - (1 : Int32)))).toNatClampNeg)) (hat40b : cl_w3.slots[(((((((q2 * (-7046029254386353131 : Int64)).toUInt64 >>> (r5 &&& 0x3f).toInt64.toUInt64).toInt64).toInt32) + (1 : Int32)) &&& (z_w3 - (1 : Int32)))).toNatClampNeg]? = some (.long w14)) (hc31 : ¬ ((lcmpW w8 (0 : Int64)) = (0 : Int32))) (hc43 : ¬ ((lcmpW w10 q2) = (0 : Int32))) (hc31b : ¬ ((lcmpW w12 (0 : Int64)) = (0 : Int32))) (hc43b : (lcmpW w14 q2) = (0 : Int32)) :
    M13 l Z ws a1 q2 h0 n0 (some (.int ((((((q2 * (-7046029254386353131 : Int64)).toUInt64 >>> (r5 &&& 0x3f).toInt64.toUInt64).toInt64).toInt32) + (1 : Int32)) &&& (z_w3 - (1 : Int32))))) := by
  refine MetFree.of_bodySF (plainFor_of_name pn_13) hisR ?_
  intro p e s m args below meth c s₁ Bd hml0 hP hK
  obtain ⟨rfl, hZ, hh⟩ := hP
  have hx := Bd.exec
  have hby := Bd.bytes
  have hml : c.maxLocals = 5 := hml0
  have hown : s.vm.findClass "com/example/crackline/crackline/SeenValues" = some m.cls := findClass_of_methodNamed Bd.named
  have hnm := (name_of_methodNamed Bd.named Bd.method).1
  have X0 : Stand p l e ({ frames := 2, cells := 0, slots := 0, locals := 30 } : Room) s m #[(.ref a1), (.long q2)] below meth c s₁ [] 0 0 := Stand.of_body Bd
  have e0 : s₁.heap = h0 := by rw [← hh, Bd.state]; rfl
  have N0 := Fr.nil n0
  have pre0 : ∀ t, Steps p.tables e below (s₁.setTop (mkF m 0 #[.val (.ref a1), .val (.long q2), .second, .unset, .unset] [])) t → Steps p.tables e below (s₁.setTop (entryFrame m #[(.ref a1), (.long q2)] 5)) t := fun t k => castTop (ef_13 m a1 q2) k
  obtain ⟨T4, X4, e4, st4⟩ := getF X0 hx hZ hown (host := "") (Or.inl (hw _ (List.mem_of_getElem? (i := 20) rfl))) Via.refl e0 F_keys_a1 (g := (mkF m 1 #[.val (.ref a1), .val (.long q2), .second, .unset, .unset] [(.ref a1)])) rfl rfl (hb hby d13_1)
  obtain ⟨_, _, ⟨T5, L5, k5, n5⟩, -, X5, ⟨Lc5, hQ5, l5, y5, z5⟩, st5⟩ := Jvm.LawKit.callS X4 hx (y := (⟨"java/lang/Long", "numberOfLeadingZeros", "(J)I"⟩ : MethodName)) hown (mvT hZ (hw _ (List.mem_of_getElem? (i := 68) rfl))) (mvT hZ (hw _ (List.mem_of_getElem? (i := 69) rfl))) (mvT hZ (hw _ (List.mem_of_getElem? (i := 70) rfl))) (mvT hZ (hw _ (List.mem_of_getElem? (i := 71) rfl))) (by decide) (backOf (W := 2) Hm5 hZ (hw _ (List.mem_of_getElem? (i := 71) rfl)) (hw _ (List.mem_of_getElem? (i := 70) rfl)) (by decide) (by decide)) (g := (mkF m 15 #[.val (.ref a1), .val (.long q2), .second, .val (.int (z_w3 - (1 : Int32))), .unset] [(.long ((z_w3 - (1 : Int32)).toInt64)), (.long (q2 * (-7046029254386353131 : Int64)))])) rfl (by rw [hml]; rfl) (argsL := [(.long ((z_w3 - (1 : Int32)).toInt64))]) (rest := [(.long (q2 * (-7046029254386353131 : Int64)))]) (lenOf pd_13_7 rfl) rfl (by show 2 * 0 + _ ≤ _; exact Nat.le_of_eq rfl) (hb hby d13_15) (fun _ _ => ⟨rfl, e4, (by decide : 0 + 0 ≤ _), (by decide : 0 + 0 ≤ _)⟩)
  dsimp only [Pt.U, Pt.locs, Pt.cells, Pt.slots] at X5 l5 y5 z5 st5 hQ5
  subst l5 y5 z5
  obtain ⟨rfl, N5q, hh5⟩ := hQ5
  have N5 := Fr.app N0 N5q
  obtain ⟨T7, X7, e7, st7⟩ := getF X5 hx hZ hown (host := "") (Or.inl (hw _ (List.mem_of_getElem? (i := 22) rfl))) Via.refl hh5 F_words_a1 (g := (mkF m 23 #[.val (.ref a1), .val (.long q2), .second, .val (.int (z_w3 - (1 : Int32))), .val (.int ((((q2 * (-7046029254386353131 : Int64)).toUInt64 >>> (r5 &&& 0x3f).toInt64.toUInt64).toInt64).toInt32))] [(.ref a1)])) rfl rfl (hb hby d13_23)
  obtain ⟨T9, X9, e9, st9⟩ := getF X7 hx hZ hown (host := "") (Or.inl (hw _ (List.mem_of_getElem? (i := 20) rfl))) Via.refl e7 F_keys_a1 (g := (mkF m 35 #[.val (.ref a1), .val (.long q2), .second, .val (.int (z_w3 - (1 : Int32))), .val (.int ((((q2 * (-7046029254386353131 : Int64)).toUInt64 >>> (r5 &&& 0x3f).toInt64.toUInt64).toInt64).toInt32))] [(.ref a1)])) rfl rfl (hb hby d13_35)
  obtain ⟨T11, X11, e11, st11⟩ := getF X9 hx hZ hown (host := "") (Or.inl (hw _ (List.mem_of_getElem? (i := 22) rfl))) Via.refl e9 F_words_a1 (g := (mkF m 23 #[.val (.ref a1), .val (.long q2), .second, .val (.int (z_w3 - (1 : Int32))), .val (.int ((((((q2 * (-7046029254386353131 : Int64)).toUInt64 >>> (r5 &&& 0x3f).toInt64.toUInt64).toInt64).toInt32) + (1 : Int32)) &&& (z_w3 - (1 : Int32))))] [(.ref a1)])) rfl rfl (hb hby d13_23)
  obtain ⟨T13, X13, e13, st13⟩ := getF X11 hx hZ hown (host := "") (Or.inl (hw _ (List.mem_of_getElem? (i := 20) rfl))) Via.refl e11 F_keys_a1 (g := (mkF m 35 #[.val (.ref a1), .val (.long q2), .second, .val (.int (z_w3 - (1 : Int32))), .val (.int ((((((q2 * (-7046029254386353131 : Int64)).toUInt64 >>> (r5 &&& 0x3f).toInt64.toUInt64).toInt64).toInt32) + (1 : Int32)) &&& (z_w3 - (1 : Int32))))] [(.ref a1)])) rfl rfl (hb hby d13_35)
  obtain ⟨fs, hr, hrun, hended, hW, hsame⟩ := X13.leave (v := some (.int ((((((q2 * (-7046029254386353131 : Int64)).toUInt64 >>> (r5 &&& 0x3f).toInt64.toUInt64).toInt64).toInt32) + (1 : Int32)) &&& (z_w3 - (1 : Int32))))) (fun h => by rw [Bd.returns] at h; cases h)
  refine ⟨_, _, pre0 _ ?_, hrun, hended, _, _, rfl, ?_, ⟨_, rfl⟩, hW, hsame.mono (by decide) (by decide)⟩
  · show Steps p.tables e below (s₁.setTop (mkF m 0 #[.val (.ref a1), .val (.long q2), .second, .unset, .unset] [])) _
    refine XS.aloadN X0.here hx rfl (hb hby d13_0) rfl rfl ?_
    show Steps p.tables e below (s₁.setTop (mkF m 1 #[.val (.ref a1), .val (.long q2), .second, .unset, .unset] [(.ref a1)])) _
    refine st4 _ ?_
    show Steps p.tables e below (T4.setTop (mkF m 4 #[.val (.ref a1), .val (.long q2), .second, .unset, .unset] [(.ref w3)])) _
    refine X4.arraylength hx (by rw [e4]; exact Ar_w3.1) (State.isArrayOf_alike hZ.alike Ar_w3.2.1) (g := (mkF m 4 #[.val (.ref a1), .val (.long q2), .second, .unset, .unset] [(.ref w3)])) rfl rfl (hb hby d13_4) _ ?_
    rw [len_of S_w3 N_w3]
    show Steps p.tables e below (T4.setTop (mkF m 5 #[.val (.ref a1), .val (.long q2), .second, .unset, .unset] [(.int z_w3)])) _
    refine XS.iconst X4.here hx rfl (hb hby d13_5) ?_
    show Steps p.tables e below (T4.setTop (mkF m 6 #[.val (.ref a1), .val (.long q2), .second, .unset, .unset] [(.int (1 : Int32)), (.int z_w3)])) _
    refine XS.isub X4.here hx rfl (hb hby d13_6) rfl ?_
    show Steps p.tables e below (T4.setTop (mkF m 7 #[.val (.ref a1), .val (.long q2), .second, .unset, .unset] [(.int (z_w3 - (1 : Int32)))])) _
    refine XS.istoreN X4.here hx rfl (hb hby d13_7) rfl (l' := #[.val (.ref a1), .val (.long q2), .second, .val (.int (z_w3 - (1 : Int32))), .unset]) rfl ?_
    show Steps p.tables e below (T4.setTop (mkF m 8 #[.val (.ref a1), .val (.long q2), .second, .val (.int (z_w3 - (1 : Int32))), .unset] [])) _
    refine XS.lloadN X4.here hx rfl (hb hby d13_8) rfl ?_
    show Steps p.tables e below (T4.setTop (mkF m 9 #[.val (.ref a1), .val (.long q2), .second, .val (.int (z_w3 - (1 : Int32))), .unset] [(.long q2)])) _
    refine X4.ldc2Long hx hown (mvT hZ (hw _ (List.mem_of_getElem? (i := 67) rfl))) (g := (mkF m 9 #[.val (.ref a1), .val (.long q2), .second, .val (.int (z_w3 - (1 : Int32))), .unset] [(.long q2)])) rfl (hb hby d13_9) _ ?_
    show Steps p.tables e below (T4.setTop (mkF m 12 #[.val (.ref a1), .val (.long q2), .second, .val (.int (z_w3 - (1 : Int32))), .unset] [(.long (-7046029254386353131 : Int64)), (.long q2)])) _
    refine XS.lmul X4.here hx rfl (hb hby d13_12) rfl ?_
    show Steps p.tables e below (T4.setTop (mkF m 13 #[.val (.ref a1), .val (.long q2), .second, .val (.int (z_w3 - (1 : Int32))), .unset] [(.long (q2 * (-7046029254386353131 : Int64)))])) _
    refine XS.iloadN X4.here hx rfl (hb hby d13_13) rfl ?_
    show Steps p.tables e below (T4.setTop (mkF m 14 #[.val (.ref a1), .val (.long q2), .second, .val (.int (z_w3 - (1 : Int32))), .unset] [(.int (z_w3 - (1 : Int32))), (.long (q2 * (-7046029254386353131 : Int64)))])) _
    refine XS.i2l X4.here hx rfl (hb hby d13_14) rfl ?_
    show Steps p.tables e below (T4.setTop (mkF m 15 #[.val (.ref a1), .val (.long q2), .second, .val (.int (z_w3 - (1 : Int32))), .unset] [(.long ((z_w3 - (1 : Int32)).toInt64)), (.long (q2 * (-7046029254386353131 : Int64)))])) _
    refine st5 _ ?_
    show Steps p.tables e below (T5.setTop (mkF m 18 #[.val (.ref a1), .val (.long q2), .second, .val (.int (z_w3 - (1 : Int32))), .unset] [(.int r5), (.long (q2 * (-7046029254386353131 : Int64)))])) _
    refine XS.lushr X5.here hx rfl (hb hby d13_18) rfl ?_
    show Steps p.tables e below (T5.setTop (mkF m 19 #[.val (.ref a1), .val (.long q2), .second, .val (.int (z_w3 - (1 : Int32))), .unset] [(.long (((q2 * (-7046029254386353131 : Int64)).toUInt64 >>> (r5 &&& 0x3f).toInt64.toUInt64).toInt64))])) _
    refine XS.l2i X5.here hx rfl (hb hby d13_19) rfl ?_
    show Steps p.tables e below (T5.setTop (mkF m 20 #[.val (.ref a1), .val (.long q2), .second, .val (.int (z_w3 - (1 : Int32))), .unset] [(.int ((((q2 * (-7046029254386353131 : Int64)).toUInt64 >>> (r5 &&& 0x3f).toInt64.toUInt64).toInt64).toInt32))])) _
    refine XS.istore X5.here hx rfl (hb hby d13_20) rfl (l' := #[.val (.ref a1), .val (.long q2), .second, .val (.int (z_w3 - (1 : Int32))), .val (.int ((((q2 * (-7046029254386353131 : Int64)).toUInt64 >>> (r5 &&& 0x3f).toInt64.toUInt64).toInt64).toInt32))]) rfl ?_
    show Steps p.tables e below (T5.setTop (mkF m 22 #[.val (.ref a1), .val (.long q2), .second, .val (.int (z_w3 - (1 : Int32))), .val (.int ((((q2 * (-7046029254386353131 : Int64)).toUInt64 >>> (r5 &&& 0x3f).toInt64.toUInt64).toInt64).toInt32))] [])) _
    refine XS.aloadN X5.here hx rfl (hb hby d13_22) rfl rfl ?_
    show Steps p.tables e below (T5.setTop (mkF m 23 #[.val (.ref a1), .val (.long q2), .second, .val (.int (z_w3 - (1 : Int32))), .val (.int ((((q2 * (-7046029254386353131 : Int64)).toUInt64 >>> (r5 &&& 0x3f).toInt64.toUInt64).toInt64).toInt32))] [(.ref a1)])) _
    refine st7 _ ?_
    show Steps p.tables e below (T7.setTop (mkF m 26 #[.val (.ref a1), .val (.long q2), .second, .val (.int (z_w3 - (1 : Int32))), .val (.int ((((q2 * (-7046029254386353131 : Int64)).toUInt64 >>> (r5 &&& 0x3f).toInt64.toUInt64).toInt64).toInt32))] [(.ref w6)])) _
    refine XS.iload X7.here hx rfl (hb hby d13_26) rfl ?_
    show Steps p.tables e below (T7.setTop (mkF m 28 #[.val (.ref a1), .val (.long q2), .second, .val (.int (z_w3 - (1 : Int32))), .val (.int ((((q2 * (-7046029254386353131 : Int64)).toUInt64 >>> (r5 &&& 0x3f).toInt64.toUInt64).toInt64).toInt32))] [(.int ((((q2 * (-7046029254386353131 : Int64)).toUInt64 >>> (r5 &&& 0x3f).toInt64.toUInt64).toInt64).toInt32)), (.ref w6)])) _
    refine X7.laload hx (j := ((((q2 * (-7046029254386353131 : Int64)).toUInt64 >>> (r5 &&& 0x3f).toInt64.toUInt64).toInt64).toInt32)) (v := (.long w8)) (by rw [e7]; exact Ar_w6.1) (State.isArrayOf_alike hZ.alike Ar_w6.2.1) Ar_w6.2.2 hin28 hat28 (g := (mkF m 28 #[.val (.ref a1), .val (.long q2), .second, .val (.int (z_w3 - (1 : Int32))), .val (.int ((((q2 * (-7046029254386353131 : Int64)).toUInt64 >>> (r5 &&& 0x3f).toInt64.toUInt64).toInt64).toInt32))] [(.int ((((q2 * (-7046029254386353131 : Int64)).toUInt64 >>> (r5 &&& 0x3f).toInt64.toUInt64).toInt64).toInt32)), (.ref w6)])) rfl rfl (hb hby d13_28) _ ?_
    show Steps p.tables e below (T7.setTop (mkF m 29 #[.val (.ref a1), .val (.long q2), .second, .val (.int (z_w3 - (1 : Int32))), .val (.int ((((q2 * (-7046029254386353131 : Int64)).toUInt64 >>> (r5 &&& 0x3f).toInt64.toUInt64).toInt64).toInt32))] [(.long w8)])) _
    refine XS.lconst X7.here hx rfl (hb hby d13_29) ?_
    show Steps p.tables e below (T7.setTop (mkF m 30 #[.val (.ref a1), .val (.long q2), .second, .val (.int (z_w3 - (1 : Int32))), .val (.int ((((q2 * (-7046029254386353131 : Int64)).toUInt64 >>> (r5 &&& 0x3f).toInt64.toUInt64).toInt64).toInt32))] [(.long (0 : Int64)), (.long w8)])) _
    refine XS.lcmp X7.here hx rfl (hb hby d13_30) rfl ?_
    show Steps p.tables e below (T7.setTop (mkF m 31 #[.val (.ref a1), .val (.long q2), .second, .val (.int (z_w3 - (1 : Int32))), .val (.int ((((q2 * (-7046029254386353131 : Int64)).toUInt64 >>> (r5 &&& 0x3f).toInt64.toUInt64).toInt64).toInt32))] [(.int (lcmpW w8 (0 : Int64)))])) _
    refine XS.ifNo X7.here hx rfl (hb hby d13_31) rfl ((if0 _ _).trans (feq hc31).1) ?_
    show Steps p.tables e below (T7.setTop (mkF m 34 #[.val (.ref a1), .val (.long q2), .second, .val (.int (z_w3 - (1 : Int32))), .val (.int ((((q2 * (-7046029254386353131 : Int64)).toUInt64 >>> (r5 &&& 0x3f).toInt64.toUInt64).toInt64).toInt32))] [])) _
    refine XS.aloadN X7.here hx rfl (hb hby d13_34) rfl rfl ?_
    show Steps p.tables e below (T7.setTop (mkF m 35 #[.val (.ref a1), .val (.long q2), .second, .val (.int (z_w3 - (1 : Int32))), .val (.int ((((q2 * (-7046029254386353131 : Int64)).toUInt64 >>> (r5 &&& 0x3f).toInt64.toUInt64).toInt64).toInt32))] [(.ref a1)])) _
    refine st9 _ ?_
    show Steps p.tables e below (T9.setTop (mkF m 38 #[.val (.ref a1), .val (.long q2), .second, .val (.int (z_w3 - (1 : Int32))), .val (.int ((((q2 * (-7046029254386353131 : Int64)).toUInt64 >>> (r5 &&& 0x3f).toInt64.toUInt64).toInt64).toInt32))] [(.ref w3)])) _
    refine XS.iload X9.here hx rfl (hb hby d13_38) rfl ?_
    show Steps p.tables e below (T9.setTop (mkF m 40 #[.val (.ref a1), .val (.long q2), .second, .val (.int (z_w3 - (1 : Int32))), .val (.int ((((q2 * (-7046029254386353131 : Int64)).toUInt64 >>> (r5 &&& 0x3f).toInt64.toUInt64).toInt64).toInt32))] [(.int ((((q2 * (-7046029254386353131 : Int64)).toUInt64 >>> (r5 &&& 0x3f).toInt64.toUInt64).toInt64).toInt32)), (.ref w3)])) _
    refine X9.laload hx (j := ((((q2 * (-7046029254386353131 : Int64)).toUInt64 >>> (r5 &&& 0x3f).toInt64.toUInt64).toInt64).toInt32)) (v := (.long w10)) (by rw [e9]; exact Ar_w3.1) (State.isArrayOf_alike hZ.alike Ar_w3.2.1) Ar_w3.2.2 hin40 hat40 (g := (mkF m 40 #[.val (.ref a1), .val (.long q2), .second, .val (.int (z_w3 - (1 : Int32))), .val (.int ((((q2 * (-7046029254386353131 : Int64)).toUInt64 >>> (r5 &&& 0x3f).toInt64.toUInt64).toInt64).toInt32))] [(.int ((((q2 * (-7046029254386353131 : Int64)).toUInt64 >>> (r5 &&& 0x3f).toInt64.toUInt64).toInt64).toInt32)), (.ref w3)])) rfl rfl (hb hby d13_40) _ ?_
    show Steps p.tables e below (T9.setTop (mkF m 41 #[.val (.ref a1), .val (.long q2), .second, .val (.int (z_w3 - (1 : Int32))), .val (.int ((((q2 * (-7046029254386353131 : Int64)).toUInt64 >>> (r5 &&& 0x3f).toInt64.toUInt64).toInt64).toInt32))] [(.long w10)])) _
    refine XS.lloadN X9.here hx rfl (hb hby d13_41) rfl ?_
    show Steps p.tables e below (T9.setTop (mkF m 42 #[.val (.ref a1), .val (.long q2), .second, .val (.int (z_w3 - (1 : Int32))), .val (.int ((((q2 * (-7046029254386353131 : Int64)).toUInt64 >>> (r5 &&& 0x3f).toInt64.toUInt64).toInt64).toInt32))] [(.long q2), (.long w10)])) _
    refine XS.lcmp X9.here hx rfl (hb hby d13_42) rfl ?_
    show Steps p.tables e below (T9.setTop (mkF m 43 #[.val (.ref a1), .val (.long q2), .second, .val (.int (z_w3 - (1 : Int32))), .val (.int ((((q2 * (-7046029254386353131 : Int64)).toUInt64 >>> (r5 &&& 0x3f).toInt64.toUInt64).toInt64).toInt32))] [(.int (lcmpW w10 q2))])) _
    refine XS.ifNo X9.here hx rfl (hb hby d13_43) rfl ((if0 _ _).trans (feq hc43).1) ?_
    show Steps p.tables e below (T9.setTop (mkF m 46 #[.val (.ref a1), .val (.long q2), .second, .val (.int (z_w3 - (1 : Int32))), .val (.int ((((q2 * (-7046029254386353131 : Int64)).toUInt64 >>> (r5 &&& 0x3f).toInt64.toUInt64).toInt64).toInt32))] [])) _
    refine XS.iload X9.here hx rfl (hb hby d13_46) rfl ?_
    show Steps p.tables e below (T9.setTop (mkF m 48 #[.val (.ref a1), .val (.long q2), .second, .val (.int (z_w3 - (1 : Int32))), .val (.int ((((q2 * (-7046029254386353131 : Int64)).toUInt64 >>> (r5 &&& 0x3f).toInt64.toUInt64).toInt64).toInt32))] [(.int ((((q2 * (-7046029254386353131 : Int64)).toUInt64 >>> (r5 &&& 0x3f).toInt64.toUInt64).toInt64).toInt32))])) _
    refine XS.iconst X9.here hx rfl (hb hby d13_48) ?_
    show Steps p.tables e below (T9.setTop (mkF m 49 #[.val (.ref a1), .val (.long q2), .second, .val (.int (z_w3 - (1 : Int32))), .val (.int ((((q2 * (-7046029254386353131 : Int64)).toUInt64 >>> (r5 &&& 0x3f).toInt64.toUInt64).toInt64).toInt32))] [(.int (1 : Int32)), (.int ((((q2 * (-7046029254386353131 : Int64)).toUInt64 >>> (r5 &&& 0x3f).toInt64.toUInt64).toInt64).toInt32))])) _
    refine XS.iadd X9.here hx rfl (hb hby d13_49) rfl ?_
    show Steps p.tables e below (T9.setTop (mkF m 50 #[.val (.ref a1), .val (.long q2), .second, .val (.int (z_w3 - (1 : Int32))), .val (.int ((((q2 * (-7046029254386353131 : Int64)).toUInt64 >>> (r5 &&& 0x3f).toInt64.toUInt64).toInt64).toInt32))] [(.int (((((q2 * (-7046029254386353131 : Int64)).toUInt64 >>> (r5 &&& 0x3f).toInt64.toUInt64).toInt64).toInt32) + (1 : Int32)))])) _
    refine XS.iloadN X9.here hx rfl (hb hby d13_50) rfl ?_
    show Steps p.tables e below (T9.setTop (mkF m 51 #[.val (.ref a1), .val (.long q2), .second, .val (.int (z_w3 - (1 : Int32))), .val (.int ((((q2 * (-7046029254386353131 : Int64)).toUInt64 >>> (r5 &&& 0x3f).toInt64.toUInt64).toInt64).toInt32))] [(.int (z_w3 - (1 : Int32))), (.int (((((q2 * (-7046029254386353131 : Int64)).toUInt64 >>> (r5 &&& 0x3f).toInt64.toUInt64).toInt64).toInt32) + (1 : Int32)))])) _
    refine XS.iand X9.here hx rfl (hb hby d13_51) rfl ?_
    show Steps p.tables e below (T9.setTop (mkF m 52 #[.val (.ref a1), .val (.long q2), .second, .val (.int (z_w3 - (1 : Int32))), .val (.int ((((q2 * (-7046029254386353131 : Int64)).toUInt64 >>> (r5 &&& 0x3f).toInt64.toUInt64).toInt64).toInt32))] [(.int ((((((q2 * (-7046029254386353131 : Int64)).toUInt64 >>> (r5 &&& 0x3f).toInt64.toUInt64).toInt64).toInt32) + (1 : Int32)) &&& (z_w3 - (1 : Int32))))])) _
    refine XS.istore X9.here hx rfl (hb hby d13_52) rfl (l' := #[.val (.ref a1), .val (.long q2), .second, .val (.int (z_w3 - (1 : Int32))), .val (.int ((((((q2 * (-7046029254386353131 : Int64)).toUInt64 >>> (r5 &&& 0x3f).toInt64.toUInt64).toInt64).toInt32) + (1 : Int32)) &&& (z_w3 - (1 : Int32))))]) rfl ?_
    show Steps p.tables e below (T9.setTop (mkF m 54 #[.val (.ref a1), .val (.long q2), .second, .val (.int (z_w3 - (1 : Int32))), .val (.int ((((((q2 * (-7046029254386353131 : Int64)).toUInt64 >>> (r5 &&& 0x3f).toInt64.toUInt64).toInt64).toInt32) + (1 : Int32)) &&& (z_w3 - (1 : Int32))))] [])) _
    refine XS.goto X9.here hx rfl (pc0 := 54) (pc' := 22) rfl (hb hby d13_54) (by decide) (by decide) ?_
    show Steps p.tables e below (T9.setTop (mkF m 22 #[.val (.ref a1), .val (.long q2), .second, .val (.int (z_w3 - (1 : Int32))), .val (.int ((((((q2 * (-7046029254386353131 : Int64)).toUInt64 >>> (r5 &&& 0x3f).toInt64.toUInt64).toInt64).toInt32) + (1 : Int32)) &&& (z_w3 - (1 : Int32))))] [])) _
    refine XS.aloadN X9.here hx rfl (hb hby d13_22) rfl rfl ?_
    show Steps p.tables e below (T9.setTop (mkF m 23 #[.val (.ref a1), .val (.long q2), .second, .val (.int (z_w3 - (1 : Int32))), .val (.int ((((((q2 * (-7046029254386353131 : Int64)).toUInt64 >>> (r5 &&& 0x3f).toInt64.toUInt64).toInt64).toInt32) + (1 : Int32)) &&& (z_w3 - (1 : Int32))))] [(.ref a1)])) _
    refine st11 _ ?_
    show Steps p.tables e below (T11.setTop (mkF m 26 #[.val (.ref a1), .val (.long q2), .second, .val (.int (z_w3 - (1 : Int32))), .val (.int ((((((q2 * (-7046029254386353131 : Int64)).toUInt64 >>> (r5 &&& 0x3f).toInt64.toUInt64).toInt64).toInt32) + (1 : Int32)) &&& (z_w3 - (1 : Int32))))] [(.ref w6)])) _
    refine XS.iload X11.here hx rfl (hb hby d13_26) rfl ?_
    show Steps p.tables e below (T11.setTop (mkF m 28 #[.val (.ref a1), .val (.long q2), .second, .val (.int (z_w3 - (1 : Int32))), .val (.int ((((((q2 * (-7046029254386353131 : Int64)).toUInt64 >>> (r5 &&& 0x3f).toInt64.toUInt64).toInt64).toInt32) + (1 : Int32)) &&& (z_w3 - (1 : Int32))))] [(.int ((((((q2 * (-7046029254386353131 : Int64)).toUInt64 >>> (r5 &&& 0x3f).toInt64.toUInt64).toInt64).toInt32) + (1 : Int32)) &&& (z_w3 - (1 : Int32)))), (.ref w6)])) _
    refine X11.laload hx (j := ((((((q2 * (-7046029254386353131 : Int64)).toUInt64 >>> (r5 &&& 0x3f).toInt64.toUInt64).toInt64).toInt32) + (1 : Int32)) &&& (z_w3 - (1 : Int32)))) (v := (.long w12)) (by rw [e11]; exact Ar_w6.1) (State.isArrayOf_alike hZ.alike Ar_w6.2.1) Ar_w6.2.2 hin28b hat28b (g := (mkF m 28 #[.val (.ref a1), .val (.long q2), .second, .val (.int (z_w3 - (1 : Int32))), .val (.int ((((((q2 * (-7046029254386353131 : Int64)).toUInt64 >>> (r5 &&& 0x3f).toInt64.toUInt64).toInt64).toInt32) + (1 : Int32)) &&& (z_w3 - (1 : Int32))))] [(.int ((((((q2 * (-7046029254386353131 : Int64)).toUInt64 >>> (r5 &&& 0x3f).toInt64.toUInt64).toInt64).toInt32) + (1 : Int32)) &&& (z_w3 - (1 : Int32)))), (.ref w6)])) rfl rfl (hb hby d13_28) _ ?_
    show Steps p.tables e below (T11.setTop (mkF m 29 #[.val (.ref a1), .val (.long q2), .second, .val (.int (z_w3 - (1 : Int32))), .val (.int ((((((q2 * (-7046029254386353131 : Int64)).toUInt64 >>> (r5 &&& 0x3f).toInt64.toUInt64).toInt64).toInt32) + (1 : Int32)) &&& (z_w3 - (1 : Int32))))] [(.long w12)])) _
    refine XS.lconst X11.here hx rfl (hb hby d13_29) ?_
    show Steps p.tables e below (T11.setTop (mkF m 30 #[.val (.ref a1), .val (.long q2), .second, .val (.int (z_w3 - (1 : Int32))), .val (.int ((((((q2 * (-7046029254386353131 : Int64)).toUInt64 >>> (r5 &&& 0x3f).toInt64.toUInt64).toInt64).toInt32) + (1 : Int32)) &&& (z_w3 - (1 : Int32))))] [(.long (0 : Int64)), (.long w12)])) _
    refine XS.lcmp X11.here hx rfl (hb hby d13_30) rfl ?_
    show Steps p.tables e below (T11.setTop (mkF m 31 #[.val (.ref a1), .val (.long q2), .second, .val (.int (z_w3 - (1 : Int32))), .val (.int ((((((q2 * (-7046029254386353131 : Int64)).toUInt64 >>> (r5 &&& 0x3f).toInt64.toUInt64).toInt64).toInt32) + (1 : Int32)) &&& (z_w3 - (1 : Int32))))] [(.int (lcmpW w12 (0 : Int64)))])) _
    refine XS.ifNo X11.here hx rfl (hb hby d13_31) rfl ((if0 _ _).trans (feq hc31b).1) ?_
    show Steps p.tables e below (T11.setTop (mkF m 34 #[.val (.ref a1), .val (.long q2), .second, .val (.int (z_w3 - (1 : Int32))), .val (.int ((((((q2 * (-7046029254386353131 : Int64)).toUInt64 >>> (r5 &&& 0x3f).toInt64.toUInt64).toInt64).toInt32) + (1 : Int32)) &&& (z_w3 - (1 : Int32))))] [])) _
    refine XS.aloadN X11.here hx rfl (hb hby d13_34) rfl rfl ?_
    show Steps p.tables e below (T11.setTop (mkF m 35 #[.val (.ref a1), .val (.long q2), .second, .val (.int (z_w3 - (1 : Int32))), .val (.int ((((((q2 * (-7046029254386353131 : Int64)).toUInt64 >>> (r5 &&& 0x3f).toInt64.toUInt64).toInt64).toInt32) + (1 : Int32)) &&& (z_w3 - (1 : Int32))))] [(.ref a1)])) _
    refine st13 _ ?_
    show Steps p.tables e below (T13.setTop (mkF m 38 #[.val (.ref a1), .val (.long q2), .second, .val (.int (z_w3 - (1 : Int32))), .val (.int ((((((q2 * (-7046029254386353131 : Int64)).toUInt64 >>> (r5 &&& 0x3f).toInt64.toUInt64).toInt64).toInt32) + (1 : Int32)) &&& (z_w3 - (1 : Int32))))] [(.ref w3)])) _
    refine XS.iload X13.here hx rfl (hb hby d13_38) rfl ?_
    show Steps p.tables e below (T13.setTop (mkF m 40 #[.val (.ref a1), .val (.long q2), .second, .val (.int (z_w3 - (1 : Int32))), .val (.int ((((((q2 * (-7046029254386353131 : Int64)).toUInt64 >>> (r5 &&& 0x3f).toInt64.toUInt64).toInt64).toInt32) + (1 : Int32)) &&& (z_w3 - (1 : Int32))))] [(.int ((((((q2 * (-7046029254386353131 : Int64)).toUInt64 >>> (r5 &&& 0x3f).toInt64.toUInt64).toInt64).toInt32) + (1 : Int32)) &&& (z_w3 - (1 : Int32)))), (.ref w3)])) _
    refine X13.laload hx (j := ((((((q2 * (-7046029254386353131 : Int64)).toUInt64 >>> (r5 &&& 0x3f).toInt64.toUInt64).toInt64).toInt32) + (1 : Int32)) &&& (z_w3 - (1 : Int32)))) (v := (.long w14)) (by rw [e13]; exact Ar_w3.1) (State.isArrayOf_alike hZ.alike Ar_w3.2.1) Ar_w3.2.2 hin40b hat40b (g := (mkF m 40 #[.val (.ref a1), .val (.long q2), .second, .val (.int (z_w3 - (1 : Int32))), .val (.int ((((((q2 * (-7046029254386353131 : Int64)).toUInt64 >>> (r5 &&& 0x3f).toInt64.toUInt64).toInt64).toInt32) + (1 : Int32)) &&& (z_w3 - (1 : Int32))))] [(.int ((((((q2 * (-7046029254386353131 : Int64)).toUInt64 >>> (r5 &&& 0x3f).toInt64.toUInt64).toInt64).toInt32) + (1 : Int32)) &&& (z_w3 - (1 : Int32)))), (.ref w3)])) rfl rfl (hb hby d13_40) _ ?_
    show Steps p.tables e below (T13.setTop (mkF m 41 #[.val (.ref a1), .val (.long q2), .second, .val (.int (z_w3 - (1 : Int32))), .val (.int ((((((q2 * (-7046029254386353131 : Int64)).toUInt64 >>> (r5 &&& 0x3f).toInt64.toUInt64).toInt64).toInt32) + (1 : Int32)) &&& (z_w3 - (1 : Int32))))] [(.long w14)])) _
    refine XS.lloadN X13.here hx rfl (hb hby d13_41) rfl ?_
    show Steps p.tables e below (T13.setTop (mkF m 42 #[.val (.ref a1), .val (.long q2), .second, .val (.int (z_w3 - (1 : Int32))), .val (.int ((((((q2 * (-7046029254386353131 : Int64)).toUInt64 >>> (r5 &&& 0x3f).toInt64.toUInt64).toInt64).toInt32) + (1 : Int32)) &&& (z_w3 - (1 : Int32))))] [(.long q2), (.long w14)])) _
    refine XS.lcmp X13.here hx rfl (hb hby d13_42) rfl ?_
    show Steps p.tables e below (T13.setTop (mkF m 43 #[.val (.ref a1), .val (.long q2), .second, .val (.int (z_w3 - (1 : Int32))), .val (.int ((((((q2 * (-7046029254386353131 : Int64)).toUInt64 >>> (r5 &&& 0x3f).toInt64.toUInt64).toInt64).toInt32) + (1 : Int32)) &&& (z_w3 - (1 : Int32))))] [(.int (lcmpW w14 q2))])) _
    refine XS.ifYes X13.here hx rfl (pc0 := 43) (pc' := 57) rfl (hb hby d13_43) rfl ((if0 _ _).trans (teq hc43b).1) (by decide) (by decide) ?_
    show Steps p.tables e below (T13.setTop (mkF m 57 #[.val (.ref a1), .val (.long q2), .second, .val (.int (z_w3 - (1 : Int32))), .val (.int ((((((q2 * (-7046029254386353131 : Int64)).toUInt64 >>> (r5 &&& 0x3f).toInt64.toUInt64).toInt64).toInt32) + (1 : Int32)) &&& (z_w3 - (1 : Int32))))] [])) _
    refine XS.iload X13.here hx rfl (hb hby d13_57) rfl ?_
    show Steps p.tables e below (T13.setTop (mkF m 59 #[.val (.ref a1), .val (.long q2), .second, .val (.int (z_w3 - (1 : Int32))), .val (.int ((((((q2 * (-7046029254386353131 : Int64)).toUInt64 >>> (r5 &&& 0x3f).toInt64.toUInt64).toInt64).toInt32) + (1 : Int32)) &&& (z_w3 - (1 : Int32))))] [(.int ((((((q2 * (-7046029254386353131 : Int64)).toUInt64 >>> (r5 &&& 0x3f).toInt64.toUInt64).toInt64).toInt32) + (1 : Int32)) &&& (z_w3 - (1 : Int32))))])) _
    exact retI X13 hx Bd.returns (hb hby d13_59) hr
  · show own_Q (some (.int ((((((q2 * (-7046029254386353131 : Int64)).toUInt64 >>> (r5 &&& 0x3f).toInt64.toUInt64).toInt64).toInt32) + (1 : Int32)) &&& (z_w3 - (1 : Int32))))) h0 n0 _ T13.heap _
    rw [e13]
    exact ⟨rfl, N5, rfl⟩
theorem own_nlz (l : Launch) (Z : State) (a0 : Array Value) (hw : ∀ d ∈ tables_1, d.before a0 Z = true) (h0 : Heap) (n0 : Nat) (Z0 : n0 ≤ h0.size) : M14 l Z [] (((1024 : Int32) - (1 : Int32)).toInt64) h0 n0 (some (.int (54 : Int32))) := by
  have h := rm14 l Z a0 hw [] (((1024 : Int32) - (1 : Int32)).toInt64) _ h0 n0 Z0 (rm15 l Z a0 hw [] ((((1024 : Int32) - (1 : Int32)).toInt64).toInt32) h0 n0 Z0 (by decide) (by decide) (by decide) (by decide) (by decide)) (by decide)
  have e : ∀ x : Int32, x = 54 → M14 l Z [] (((1024 : Int32) - (1 : Int32)).toInt64) h0 n0 (some (.int x)) → M14 l Z [] (((1024 : Int32) - (1 : Int32)).toInt64) h0 n0 (some (.int (54 : Int32))) := fun x q k => q ▸ k
  exact e _ (by decide) h
theorem own_slot (l : Launch) (Z : State) (a0 : Array Value) (hw : ∀ d ∈ tables_1, d.before a0 Z = true) (a1 ka wa : Addr) (x : Int64) (f g : Nat → Int64) (n : Int32) (h0 : Heap) (n0 : Nat) (Z0 : n0 ≤ h0.size) (HS : own_S Z h0 a1 ka wa f g n) (i : Int32) (hi : own_found f g x i) : M13 l Z [] a1 x h0 n0 (some (.int i)) := by
  obtain ⟨E, Fk, Fw, -, ⟨ck, Ak, sk, Hk⟩, ⟨cw, Aw, sw, Hw⟩, -⟩ := HS
  have hm := own_nlz l Z a0 hw h0 n0 Z0
  have r0 := own_hash_rng x
  have r1 := own_next_rng _ r0
  have z0 : ck.slots.size = (1024 : Int32).toNatClampNeg := sk.trans (by decide)
  rcases hi with ⟨rfl, hi⟩ | ⟨g0, f0, rfl, hi⟩
  · by_cases g0 : g (own_hash x).toNatClampNeg = 0
    · exact rm13_t l Z a0 hw [] a1 x ka ck 1024 54 wa _ cw h0 n0 Z0 Fk Ak z0 (by decide) hm Fw Aw (own_in r0 sw) (Hw _ (own_nat r0)) ((lw_eq _ _).mpr g0)
    · exact rm13_ft l Z a0 hw [] a1 x ka ck 1024 54 wa _ cw _ h0 n0 Z0 Fk Ak z0 (by decide) hm Fw Aw (own_in r0 sw) (Hw _ (own_nat r0)) (own_in r0 sk) (Hk _ (own_nat r0)) (fun q => g0 ((lw_eq _ _).mp q)) ((lw_eq _ _).mpr (hi.resolve_left g0))
  · by_cases g1 : g (own_next (own_hash x)).toNatClampNeg = 0
    · exact rm13_fft l Z a0 hw [] a1 x ka ck 1024 54 wa _ cw _ _ h0 n0 Z0 Fk Ak z0 (by decide) hm Fw Aw (own_in r0 sw) (Hw _ (own_nat r0)) (own_in r0 sk) (Hk _ (own_nat r0)) (own_in r1 sw) (Hw _ (own_nat r1)) (fun q => g0 ((lw_eq _ _).mp q)) (fun q => f0 ((lw_eq _ _).mp q)) ((lw_eq _ _).mpr g1)
    · exact rm13_ffft l Z a0 hw [] a1 x ka ck 1024 54 wa _ cw _ _ _ h0 n0 Z0 Fk Ak z0 (by decide) hm Fw Aw (own_in r0 sw) (Hw _ (own_nat r0)) (own_in r0 sk) (Hk _ (own_nat r0)) (own_in r1 sw) (Hw _ (own_nat r1)) (own_in r1 sk) (Hk _ (own_nat r1)) (fun q => g0 ((lw_eq _ _).mp q)) (fun q => f0 ((lw_eq _ _).mp q)) (fun q => g1 ((lw_eq _ _).mp q)) ((lw_eq _ _).mpr (hi.resolve_left g1))
theorem own_selSlot {s : State} {args : Array Value} (h : (Cond.selects "com/example/crackline/crackline/SeenValues" (⟨"com/example/crackline/crackline/SeenValues", "add", "(ILcom/example/crackline/crackline/PriceKind;J)Z"⟩ : MethodName) (⟨"com/example/crackline/crackline/SeenValues", "add", "(ILcom/example/crackline/crackline/PriceKind;J)Z"⟩ : MethodName)).before args s = true) (hp : (Cond.privateMethod (⟨"com/example/crackline/crackline/SeenValues", "slot", "(J)I"⟩ : MethodName)).before args s = true) (hi : (Cond.instanceMethod (⟨"com/example/crackline/crackline/SeenValues", "slot", "(J)I"⟩ : MethodName)).before args s = true) : (Cond.selects "com/example/crackline/crackline/SeenValues" (⟨"com/example/crackline/crackline/SeenValues", "slot", "(J)I"⟩ : MethodName) (⟨"com/example/crackline/crackline/SeenValues", "slot", "(J)I"⟩ : MethodName)).before args s = true := by
  obtain ⟨c2, r2, m2, q1, q2, q3, q4, kP, hkP, hkPi⟩ := Cond.selects_spec h
  have hf := findClass_of_methodNamed q3
  exact Jvm.Stand.selects_self_of_private (y := (⟨"com/example/crackline/crackline/SeenValues", "slot", "(J)I"⟩ : MethodName)) hf hkP hkPi (Cond.privateMethod_at hp) hi (by decide)
theorem d4_0 : decode prog_41_method_2_code 0 = .ok (.iload_n 1, 1) := by decide +kernel
theorem d4_1 : decode prog_41_method_2_code 1 = .ok (.getstatic 18, 3) := by decide +kernel
theorem d4_4 : decode prog_41_method_2_code 4 = .ok (.invokestatic 22, 3) := by decide +kernel
theorem d4_7 : decode prog_41_method_2_code 7 = .ok (.aload_n 2, 1) := by decide +kernel
theorem d4_8 : decode prog_41_method_2_code 8 = .ok (.invokevirtual 28, 3) := by decide +kernel
theorem d4_11 : decode prog_41_method_2_code 11 = .ok (.invokestatic 34, 3) := by decide +kernel
theorem d4_14 : decode prog_41_method_2_code 14 = .ok (.i2l, 1) := by decide +kernel
theorem d4_15 : decode prog_41_method_2_code 15 = .ok (.lstore 5, 2) := by decide +kernel
theorem d4_17 : decode prog_41_method_2_code 17 = .ok (.lload 5, 2) := by decide +kernel
theorem d4_19 : decode prog_41_method_2_code 19 = .ok (.bipush 32, 2) := by decide +kernel
theorem d4_21 : decode prog_41_method_2_code 21 = .ok (.lshl, 1) := by decide +kernel
theorem d4_22 : decode prog_41_method_2_code 22 = .ok (.lload_n 3, 1) := by decide +kernel
theorem d4_23 : decode prog_41_method_2_code 23 = .ok (.bipush 64, 2) := by decide +kernel
theorem d4_25 : decode prog_41_method_2_code 25 = .ok (.invokestatic 39, 3) := by decide +kernel
theorem d4_28 : decode prog_41_method_2_code 28 = .ok (.invokestatic 43, 3) := by decide +kernel
theorem d4_31 : decode prog_41_method_2_code 31 = .ok (.i2l, 1) := by decide +kernel
theorem d4_32 : decode prog_41_method_2_code 32 = .ok (.ldc2_w 47, 3) := by decide +kernel
theorem d4_35 : decode prog_41_method_2_code 35 = .ok (.land, 1) := by decide +kernel
theorem d4_36 : decode prog_41_method_2_code 36 = .ok (.lor, 1) := by decide +kernel
theorem d4_37 : decode prog_41_method_2_code 37 = .ok (.lstore 7, 2) := by decide +kernel
theorem d4_39 : decode prog_41_method_2_code 39 = .ok (.lconst 1, 1) := by decide +kernel
theorem d4_40 : decode prog_41_method_2_code 40 = .ok (.lload_n 3, 1) := by decide +kernel
theorem d4_41 : decode prog_41_method_2_code 41 = .ok (.bipush 64, 2) := by decide +kernel
theorem d4_43 : decode prog_41_method_2_code 43 = .ok (.invokestatic 49, 3) := by decide +kernel
theorem d4_46 : decode prog_41_method_2_code 46 = .ok (.lshl, 1) := by decide +kernel
theorem d4_47 : decode prog_41_method_2_code 47 = .ok (.lstore 9, 2) := by decide +kernel
theorem d4_49 : decode prog_41_method_2_code 49 = .ok (.aload_n 0, 1) := by decide +kernel
theorem d4_50 : decode prog_41_method_2_code 50 = .ok (.lload 7, 2) := by decide +kernel
theorem d4_52 : decode prog_41_method_2_code 52 = .ok (.invokevirtual 53, 3) := by decide +kernel
theorem d4_55 : decode prog_41_method_2_code 55 = .ok (.istore 11, 2) := by decide +kernel
theorem d4_57 : decode prog_41_method_2_code 57 = .ok (.aload_n 0, 1) := by decide +kernel
theorem d4_58 : decode prog_41_method_2_code 58 = .ok (.getfield 15, 3) := by decide +kernel
theorem d4_61 : decode prog_41_method_2_code 61 = .ok (.iload 11, 2) := by decide +kernel
theorem d4_63 : decode prog_41_method_2_code 63 = .ok (.laload, 1) := by decide +kernel
theorem d4_64 : decode prog_41_method_2_code 64 = .ok (.lconst 0, 1) := by decide +kernel
theorem d4_65 : decode prog_41_method_2_code 65 = .ok (.lcmp, 1) := by decide +kernel
theorem d4_66 : decode prog_41_method_2_code 66 = .ok (.ifCond .ne 51, 3) := by decide +kernel
theorem d4_69 : decode prog_41_method_2_code 69 = .ok (.aload_n 0, 1) := by decide +kernel
theorem d4_70 : decode prog_41_method_2_code 70 = .ok (.getfield 9, 3) := by decide +kernel
theorem d4_73 : decode prog_41_method_2_code 73 = .ok (.iload 11, 2) := by decide +kernel
theorem d4_75 : decode prog_41_method_2_code 75 = .ok (.lload 7, 2) := by decide +kernel
theorem d4_77 : decode prog_41_method_2_code 77 = .ok (.lastore, 1) := by decide +kernel
theorem d4_78 : decode prog_41_method_2_code 78 = .ok (.aload_n 0, 1) := by decide +kernel
theorem d4_79 : decode prog_41_method_2_code 79 = .ok (.getfield 15, 3) := by decide +kernel
theorem d4_82 : decode prog_41_method_2_code 82 = .ok (.iload 11, 2) := by decide +kernel
theorem d4_84 : decode prog_41_method_2_code 84 = .ok (.lload 9, 2) := by decide +kernel
theorem d4_86 : decode prog_41_method_2_code 86 = .ok (.lastore, 1) := by decide +kernel
theorem d4_87 : decode prog_41_method_2_code 87 = .ok (.aload_n 0, 1) := by decide +kernel
theorem d4_88 : decode prog_41_method_2_code 88 = .ok (.dup, 1) := by decide +kernel
theorem d4_89 : decode prog_41_method_2_code 89 = .ok (.getfield 56, 3) := by decide +kernel
theorem d4_92 : decode prog_41_method_2_code 92 = .ok (.iconst 1, 1) := by decide +kernel
theorem d4_93 : decode prog_41_method_2_code 93 = .ok (.iadd, 1) := by decide +kernel
theorem d4_94 : decode prog_41_method_2_code 94 = .ok (.putfield 56, 3) := by decide +kernel
theorem d4_97 : decode prog_41_method_2_code 97 = .ok (.iconst 2, 1) := by decide +kernel
theorem d4_98 : decode prog_41_method_2_code 98 = .ok (.aload_n 0, 1) := by decide +kernel
theorem d4_99 : decode prog_41_method_2_code 99 = .ok (.getfield 56, 3) := by decide +kernel
theorem d4_102 : decode prog_41_method_2_code 102 = .ok (.imul, 1) := by decide +kernel
theorem d4_103 : decode prog_41_method_2_code 103 = .ok (.aload_n 0, 1) := by decide +kernel
theorem d4_104 : decode prog_41_method_2_code 104 = .ok (.getfield 9, 3) := by decide +kernel
theorem d4_107 : decode prog_41_method_2_code 107 = .ok (.arraylength, 1) := by decide +kernel
theorem d4_108 : decode prog_41_method_2_code 108 = .ok (.if_icmp .le 7, 3) := by decide +kernel
theorem d4_115 : decode prog_41_method_2_code 115 = .ok (.iconst 1, 1) := by decide +kernel
theorem d4_116 : decode prog_41_method_2_code 116 = .ok (.ireturn, 1) := by decide +kernel
theorem pn_4 : plainName "com/example/crackline/crackline/SeenValues" = true := by first | (simp [plainName, overriddenIn]; done) | decide +kernel
theorem pd_4_3 : parseMethodDescriptor "(II)I" = some ⟨[.int, .int], some .int⟩ := by decide +kernel
theorem pd_4_4 : parseMethodDescriptor "()I" = some ⟨[], some .int⟩ := by decide +kernel
theorem pd_4_5 : parseMethodDescriptor "(JI)J" = some ⟨[.long, .int], some .long⟩ := by decide +kernel
theorem pd_4_7 : parseMethodDescriptor "(J)I" = some ⟨[.long], some .int⟩ := by decide +kernel
theorem pd_4_8 : parseMethodDescriptor "(JI)I" = some ⟨[.long, .int], some .int⟩ := by decide +kernel
theorem ef_4 (m : MethodId) (x0 : Addr) (x1 : Int32) (x2 : Addr) (x3 : Int64) : entryFrame m #[(.ref x0), (.int x1), (.ref x2), (.long x3)] 13 = mkF m 0 #[.val (.ref x0), .val (.int x1), .val (.ref x2), .val (.long x3), .second, .unset, .unset, .unset, .unset, .unset, .unset, .unset, .unset] [] := by first | (simp [entryFrame, mkF, argsToLocals, Value.category]; done) | rfl
set_option maxRecDepth 65536 in
set_option maxHeartbeats 40000000 in
theorem rm4_ft (l : Launch) (Z : State) (a0 : Array Value) (hw : ∀ d ∈ tables_1, d.before a0 Z = true) (ws : List Jvm.Cond) (a1 : Addr) (p2 : Int32) (a3 : Addr) (q4 : Int64) (w5 : Int32) (r7 : Int32) (r8 : Int32) (r9 : Int32) (r10 : Int64) (r11 : Int32) (r12 : Int32) (r13 : Int32) (w14 : Addr) (w17 : Addr) (w22 : Int32) (f g : Nat → Int64) (h0 : Heap) (n0 : Nat) (Z0 : n0 ≤ h0.size) (S_KINDS : Sta Z h0 "com/example/crackline/crackline/SeenValues" "KINDS" "I" (.int w5)) (Hm7 : M5 l Z [] p2 w5 h0 n0 (some (.int r7))) (Hm8 : M6 l Z [] a3 h0 n0 (some (.int r8))) (E_a3 : Exa Z h0 a3 "com/example/crackline/crackline/PriceKind") (Hm9 : M7 l Z [] r7 r8 h0 n0 (some (.int r9))) (Hm10 : M8 l Z [] q4 (64 : Int32) h0 n0 (some (.long r10))) (Hm11 : M10 l Z [] r10 h0 n0 (some (.int r11))) (Hm12 : M11 l Z [] q4 (64 : Int32) h0 n0 (some (.int r12))) (Hm13 : M13 l Z [] a1 (((r9.toInt64) <<< ((32 : Int32) &&& 0x3f).toInt64) ||| ((r11.toInt64) &&& (4294967295 : Int64))) h0 n0 (some (.int r13))) (HS : own_S Z h0 a1 w17 w14 f g w22) (hir : 0 ≤ r13.toInt ∧ r13.toInt < 1024) (g_a1 : n0 ≤ a1) (g_w17 : n0 ≤ w17) (g_w14 : n0 ≤ w14) (hg0 : g r13.toNatClampNeg = 0) (hsz : ¬ ((1024 : Int32) < ((2 : Int32) * (w22 + (1 : Int32))))) :
    MetFree l (⟨"com/example/crackline/crackline/SeenValues", "add", "(ILcom/example/crackline/crackline/PriceKind;J)Z"⟩ : MethodName) (head1 (Jvm.Cond.code (⟨"com/example/crackline/crackline/SeenValues", "add", "(ILcom/example/crackline/crackline/PriceKind;J)Z"⟩ : MethodName) prog_41_method_2_code 13 (some .boolean) :: ws) ({ frames := 3, cells := 0, slots := 0, locals := 46 } : Room)) (fun a U => a = #[(.ref a1), (.int p2), (.ref a3), (.long q4)] ∧ Z.Warmed39 U.vm ∧ U.heap = h0) (fun _ _ _ _ _ => True) (fun _ U o U' => ∃ v L, o = .returned v ∧ own_QA Z a1 w17 w14 h0 n0 (1 : Int32) (own_upd f r13.toNatClampNeg (((r9.toInt64) <<< ((32 : Int32) &&& 0x3f).toInt64) ||| ((r11.toInt64) &&& (4294967295 : Int64)))) (own_upd g r13.toNatClampNeg ((1 : Int64) <<< (r12 &&& 0x3f).toInt64)) (w22 + (1 : Int32)) v U'.heap L ∧ FrameEnd U o U' L ({ frames := 3, cells := 0, slots := 0, locals := 46 } : Room).cells ({ frames := 3, cells := 0, slots := 0, locals := 46 } : Room).slots) := by
  refine MetFree.of_bodySF (plainFor_of_name pn_4) hisR ?_
  intro p e s m args below meth c s₁ Bd hml0 hP hK
  obtain ⟨rfl, hZ, hh⟩ := hP
  have hx := Bd.exec
  have hby := Bd.bytes
  have hml : c.maxLocals = 13 := hml0
  have hown : s.vm.findClass "com/example/crackline/crackline/SeenValues" = some m.cls := findClass_of_methodNamed Bd.named
  have hnm := (name_of_methodNamed Bd.named Bd.method).1
  have X0 : Stand p l e ({ frames := 3, cells := 0, slots := 0, locals := 46 } : Room) s m #[(.ref a1), (.int p2), (.ref a3), (.long q4)] below meth c s₁ [] 0 0 := Stand.of_body Bd
  have e0 : s₁.heap = h0 := by rw [← hh, Bd.state]; rfl
  have N0 := Fr.nil n0
  obtain ⟨E_a1, F_keys_a1, F_words_a1, F_size_a1, ⟨cl_w17, Ar_w17, s17, H17⟩, ⟨cl_w14, Ar_w14, s14, H14⟩, hkw⟩ := HS
  have hlt := own_nat hir
  have hin14 := own_in hir s14
  have hin17 := own_in hir s17
  have hat14 := H14 _ hlt
  have hne17 : a1 ≠ w17 := ne_arr E_a1 (hw _ (List.mem_of_getElem? (i := 11) rfl)) Ar_w17
  have hne14 : a1 ≠ w14 := ne_arr E_a1 (hw _ (List.mem_of_getElem? (i := 11) rfl)) Ar_w14
  have pre0 : ∀ t, Steps p.tables e below (s₁.setTop (mkF m 0 #[.val (.ref a1), .val (.int p2), .val (.ref a3), .val (.long q4), .second, .unset, .unset, .unset, .unset, .unset, .unset, .unset, .unset] [])) t → Steps p.tables e below (s₁.setTop (entryFrame m #[(.ref a1), (.int p2), (.ref a3), (.long q4)] 13)) t := fun t k => castTop (ef_4 m a1 p2 a3 q4) k
  obtain ⟨T6, X6, e6, st6⟩ := getS2 X0 hx hZ hown (host := "") (Or.inl (hw _ (List.mem_of_getElem? (i := 29) rfl))) Via.refl e0 S_KINDS (g := (mkF m 1 #[.val (.ref a1), .val (.int p2), .val (.ref a3), .val (.long q4), .second, .unset, .unset, .unset, .unset, .unset, .unset, .unset, .unset] [(.int p2)])) rfl (hb hby d4_1)
  obtain ⟨_, _, ⟨T7, L7, k7, n7⟩, -, X7, ⟨Lc7, hQ7, l7, y7, z7⟩, st7⟩ := Jvm.LawKit.callS X6 hx (y := (⟨"java/lang/Math", "multiplyExact", "(II)I"⟩ : MethodName)) hown (mvT hZ (hw _ (List.mem_of_getElem? (i := 31) rfl))) (mvT hZ (hw _ (List.mem_of_getElem? (i := 32) rfl))) (mvT hZ (hw _ (List.mem_of_getElem? (i := 33) rfl))) (mvT hZ (hw _ (List.mem_of_getElem? (i := 34) rfl))) (by decide) (backOf (W := 0) Hm7 hZ (hw _ (List.mem_of_getElem? (i := 34) rfl)) (hw _ (List.mem_of_getElem? (i := 33) rfl)) (by decide) (by decide)) (g := (mkF m 4 #[.val (.ref a1), .val (.int p2), .val (.ref a3), .val (.long q4), .second, .unset, .unset, .unset, .unset, .unset, .unset, .unset, .unset] [(.int w5), (.int p2)])) rfl (by rw [hml]; rfl) (argsL := [(.int p2), (.int w5)]) (rest := []) (lenOf pd_4_3 rfl) rfl (by show 2 * 0 + _ ≤ _; exact Nat.le_of_eq rfl) (hb hby d4_4) (fun _ _ => ⟨rfl, e6, (by decide : 0 + 0 ≤ _), (by decide : 0 + 0 ≤ _)⟩)
  dsimp only [Pt.U, Pt.locs, Pt.cells, Pt.slots] at X7 l7 y7 z7 st7 hQ7
  subst l7 y7 z7
  obtain ⟨rfl, N7q, hh7⟩ := hQ7
  have N7 := Fr.app N0 N7q
  obtain ⟨cq8, kq8, q8a, q8b, q8c⟩ := isOf hZ hh7 E_a3
  obtain ⟨_, _, ⟨T8, L8, k8, n8⟩, -, X8, ⟨Lc8, hQ8, l8, y8, z8⟩, st8⟩ := X7.virtualBackUp hx (x := (⟨"com/example/crackline/crackline/PriceKind", "ordinal", "()I"⟩ : MethodName)) (y := (⟨"java/lang/Enum", "ordinal", "()I"⟩ : MethodName)) (owner := "java/lang/Enum") hown (mvT hZ (hw _ (List.mem_of_getElem? (i := 35) rfl))) (mvT hZ (hw _ (List.mem_of_getElem? (i := 36) rfl))) (mvT hZ (hw _ (List.mem_of_getElem? (i := 37) rfl))) (by decide) (mvT hZ (hw _ (List.mem_of_getElem? (i := 39) rfl))) (mvT hZ (hw _ (List.mem_of_getElem? (i := 38) rfl))) (backOf (W := 1) Hm8 hZ (hw _ (List.mem_of_getElem? (i := 41) rfl)) (hw _ (List.mem_of_getElem? (i := 40) rfl)) (by decide) (by decide)) q8a q8c (g := (mkF m 8 #[.val (.ref a1), .val (.int p2), .val (.ref a3), .val (.long q4), .second, .unset, .unset, .unset, .unset, .unset, .unset, .unset, .unset] [(.ref a3), (.int r7)])) rfl (by rw [hml]; rfl) (Steps.refl _) (argsL := []) (rest := [(.int r7)]) (lenOf pd_4_4 rfl) rfl (by show 2 * 0 + _ ≤ _; exact Nat.le_of_eq rfl) (hb hby d4_8) (fun _ _ => ⟨rfl, hh7, (by decide : 0 + 0 ≤ _), (by decide : 0 + 0 ≤ _)⟩)
  dsimp only [Pt.U, Pt.locs, Pt.cells, Pt.slots] at X8 l8 y8 z8 st8 hQ8
  subst l8 y8 z8
  obtain ⟨rfl, N8q, hh8⟩ := hQ8
  have N8 := Fr.app N7 N8q
  obtain ⟨_, _, ⟨T9, L9, k9, n9⟩, -, X9, ⟨Lc9, hQ9, l9, y9, z9⟩, st9⟩ := Jvm.LawKit.callS X8 hx (y := (⟨"java/lang/Math", "addExact", "(II)I"⟩ : MethodName)) hown (mvT hZ (hw _ (List.mem_of_getElem? (i := 44) rfl))) (mvT hZ (hw _ (List.mem_of_getElem? (i := 45) rfl))) (mvT hZ (hw _ (List.mem_of_getElem? (i := 33) rfl))) (mvT hZ (hw _ (List.mem_of_getElem? (i := 46) rfl))) (by decide) (backOf (W := 0) Hm9 hZ (hw _ (List.mem_of_getElem? (i := 46) rfl)) (hw _ (List.mem_of_getElem? (i := 33) rfl)) (by decide) (by decide)) (g := (mkF m 11 #[.val (.ref a1), .val (.int p2), .val (.ref a3), .val (.long q4), .second, .unset, .unset, .unset, .unset, .unset, .unset, .unset, .unset] [(.int r8), (.int r7)])) rfl (by rw [hml]; rfl) (argsL := [(.int r7), (.int r8)]) (rest := []) (lenOf pd_4_3 rfl) rfl (by show 2 * 0 + _ ≤ _; exact Nat.le_of_eq rfl) (hb hby d4_11) (fun _ _ => ⟨rfl, hh8, (by decide : 0 + 0 ≤ _), (by decide : 0 + 0 ≤ _)⟩)
  dsimp only [Pt.U, Pt.locs, Pt.cells, Pt.slots] at X9 l9 y9 z9 st9 hQ9
  subst l9 y9 z9
  obtain ⟨rfl, N9q, hh9⟩ := hQ9
  have N9 := Fr.app N8 N9q
  obtain ⟨_, _, ⟨T10, L10, k10, n10⟩, -, X10, ⟨Lc10, hQ10, l10, y10, z10⟩, st10⟩ := Jvm.LawKit.callS X9 hx (y := (⟨"java/lang/Math", "floorDiv", "(JI)J"⟩ : MethodName)) hown (mvT hZ (hw _ (List.mem_of_getElem? (i := 47) rfl))) (mvT hZ (hw _ (List.mem_of_getElem? (i := 48) rfl))) (mvT hZ (hw _ (List.mem_of_getElem? (i := 33) rfl))) (mvT hZ (hw _ (List.mem_of_getElem? (i := 49) rfl))) (by decide) (backOf (W := 2) Hm10 hZ (hw _ (List.mem_of_getElem? (i := 49) rfl)) (hw _ (List.mem_of_getElem? (i := 33) rfl)) (by decide) (by decide)) (g := (mkF m 25 #[.val (.ref a1), .val (.int p2), .val (.ref a3), .val (.long q4), .second, .val (.long (r9.toInt64)), .second, .unset, .unset, .unset, .unset, .unset, .unset] [(.int (64 : Int32)), (.long q4), (.long ((r9.toInt64) <<< ((32 : Int32) &&& 0x3f).toInt64))])) rfl (by rw [hml]; rfl) (argsL := [(.long q4), (.int (64 : Int32))]) (rest := [(.long ((r9.toInt64) <<< ((32 : Int32) &&& 0x3f).toInt64))]) (lenOf pd_4_5 rfl) rfl (by show 2 * 0 + _ ≤ _; exact Nat.le_of_eq rfl) (hb hby d4_25) (fun _ _ => ⟨rfl, hh9, (by decide : 0 + 0 ≤ _), (by decide : 0 + 0 ≤ _)⟩)
  dsimp only [Pt.U, Pt.locs, Pt.cells, Pt.slots] at X10 l10 y10 z10 st10 hQ10
  subst l10 y10 z10
  obtain ⟨rfl, N10q, hh10⟩ := hQ10
  have N10 := Fr.app N9 N10q
  obtain ⟨_, _, ⟨T11, L11, k11, n11⟩, -, X11, ⟨Lc11, hQ11, l11, y11, z11⟩, st11⟩ := Jvm.LawKit.callS X10 hx (y := (⟨"java/lang/Math", "toIntExact", "(J)I"⟩ : MethodName)) hown (mvT hZ (hw _ (List.mem_of_getElem? (i := 53) rfl))) (mvT hZ (hw _ (List.mem_of_getElem? (i := 54) rfl))) (mvT hZ (hw _ (List.mem_of_getElem? (i := 33) rfl))) (mvT hZ (hw _ (List.mem_of_getElem? (i := 55) rfl))) (by decide) (backOf (W := 2) Hm11 hZ (hw _ (List.mem_of_getElem? (i := 55) rfl)) (hw _ (List.mem_of_getElem? (i := 33) rfl)) (by decide) (by decide)) (g := (mkF m 28 #[.val (.ref a1), .val (.int p2), .val (.ref a3), .val (.long q4), .second, .val (.long (r9.toInt64)), .second, .unset, .unset, .unset, .unset, .unset, .unset] [(.long r10), (.long ((r9.toInt64) <<< ((32 : Int32) &&& 0x3f).toInt64))])) rfl (by rw [hml]; rfl) (argsL := [(.long r10)]) (rest := [(.long ((r9.toInt64) <<< ((32 : Int32) &&& 0x3f).toInt64))]) (lenOf pd_4_7 rfl) rfl (by show 2 * 0 + _ ≤ _; exact Nat.le_of_eq rfl) (hb hby d4_28) (fun _ _ => ⟨rfl, hh10, (by decide : 0 + 0 ≤ _), (by decide : 0 + 0 ≤ _)⟩)
  dsimp only [Pt.U, Pt.locs, Pt.cells, Pt.slots] at X11 l11 y11 z11 st11 hQ11
  subst l11 y11 z11
  obtain ⟨rfl, N11q, hh11⟩ := hQ11
  have N11 := Fr.app N10 N11q
  obtain ⟨_, _, ⟨T12, L12, k12, n12⟩, -, X12, ⟨Lc12, hQ12, l12, y12, z12⟩, st12⟩ := Jvm.LawKit.callS X11 hx (y := (⟨"java/lang/Math", "floorMod", "(JI)I"⟩ : MethodName)) hown (mvT hZ (hw _ (List.mem_of_getElem? (i := 57) rfl))) (mvT hZ (hw _ (List.mem_of_getElem? (i := 58) rfl))) (mvT hZ (hw _ (List.mem_of_getElem? (i := 33) rfl))) (mvT hZ (hw _ (List.mem_of_getElem? (i := 59) rfl))) (by decide) (backOf (W := 2) Hm12 hZ (hw _ (List.mem_of_getElem? (i := 59) rfl)) (hw _ (List.mem_of_getElem? (i := 33) rfl)) (by decide) (by decide)) (g := (mkF m 43 #[.val (.ref a1), .val (.int p2), .val (.ref a3), .val (.long q4), .second, .val (.long (r9.toInt64)), .second, .val (.long (((r9.toInt64) <<< ((32 : Int32) &&& 0x3f).toInt64) ||| ((r11.toInt64) &&& (4294967295 : Int64)))), .second, .unset, .unset, .unset, .unset] [(.int (64 : Int32)), (.long q4), (.long (1 : Int64))])) rfl (by rw [hml]; rfl) (argsL := [(.long q4), (.int (64 : Int32))]) (rest := [(.long (1 : Int64))]) (lenOf pd_4_8 rfl) rfl (by show 2 * 0 + _ ≤ _; exact Nat.le_of_eq rfl) (hb hby d4_43) (fun _ _ => ⟨rfl, hh11, (by decide : 0 + 0 ≤ _), (by decide : 0 + 0 ≤ _)⟩)
  dsimp only [Pt.U, Pt.locs, Pt.cells, Pt.slots] at X12 l12 y12 z12 st12 hQ12
  subst l12 y12 z12
  obtain ⟨rfl, N12q, hh12⟩ := hQ12
  have N12 := Fr.app N11 N12q
  obtain ⟨cq13, q13, q13'⟩ := E_a1.cell
  obtain ⟨_, _, ⟨T13, L13, k13, n13⟩, -, X13, ⟨Lc13, hQ13, l13, y13, z13⟩, st13⟩ := X12.privateBack hx (y := (⟨"com/example/crackline/crackline/SeenValues", "slot", "(J)I"⟩ : MethodName)) hown (mvT hZ (hw _ (List.mem_of_getElem? (i := 63) rfl))) (mvT hZ (hw _ (List.mem_of_getElem? (i := 64) rfl))) (own_selSlot (mvT hZ (hw _ (List.mem_of_getElem? (i := 27) rfl))) (mvP hZ (hw _ (List.mem_of_getElem? (i := 65) rfl))) (mvT hZ (hw _ (List.mem_of_getElem? (i := 64) rfl)))) (Cond.privateMethod_at (mvP hZ (hw _ (List.mem_of_getElem? (i := 65) rfl)) (args := #[]))) (mvT hZ (hw _ (List.mem_of_getElem? (i := 66) rfl))) (by decide) (backOf (W := 0) Hm13 hZ (hw _ (List.mem_of_getElem? (i := 66) rfl)) (hw _ (List.mem_of_getElem? (i := 12) rfl)) (by decide) (by decide)) (g := (mkF m 52 #[.val (.ref a1), .val (.int p2), .val (.ref a3), .val (.long q4), .second, .val (.long (r9.toInt64)), .second, .val (.long (((r9.toInt64) <<< ((32 : Int32) &&& 0x3f).toInt64) ||| ((r11.toInt64) &&& (4294967295 : Int64)))), .second, .val (.long ((1 : Int64) <<< (r12 &&& 0x3f).toInt64)), .second, .unset, .unset] [(.long (((r9.toInt64) <<< ((32 : Int32) &&& 0x3f).toInt64) ||| ((r11.toInt64) &&& (4294967295 : Int64)))), (.ref a1)])) rfl (by rw [hml]; rfl) (Steps.refl _) (a := a1) (by rw [hh12]; exact q13) q13' (argsL := [(.long (((r9.toInt64) <<< ((32 : Int32) &&& 0x3f).toInt64) ||| ((r11.toInt64) &&& (4294967295 : Int64))))]) (rest := []) (lenOf pd_4_7 rfl) rfl (by show 2 * 0 + _ ≤ _; exact Nat.le_of_eq rfl) (hb hby d4_52) (fun _ _ => ⟨rfl, hh12, (by decide : 0 + 0 ≤ _), (by decide : 0 + 0 ≤ _)⟩)
  dsimp only [Pt.U, Pt.locs, Pt.cells, Pt.slots] at X13 l13 y13 z13 st13 hQ13
  subst l13 y13 z13
  obtain ⟨rfl, N13q, hh13⟩ := hQ13
  have N13 := Fr.app N12 N13q
  obtain ⟨T15, X15, e15, st15⟩ := getF X13 hx hZ hown (host := "") (Or.inl (hw _ (List.mem_of_getElem? (i := 22) rfl))) Via.refl hh13 F_words_a1 (g := (mkF m 58 #[.val (.ref a1), .val (.int p2), .val (.ref a3), .val (.long q4), .second, .val (.long (r9.toInt64)), .second, .val (.long (((r9.toInt64) <<< ((32 : Int32) &&& 0x3f).toInt64) ||| ((r11.toInt64) &&& (4294967295 : Int64)))), .second, .val (.long ((1 : Int64) <<< (r12 &&& 0x3f).toInt64)), .second, .val (.int r13), .unset] [(.ref a1)])) rfl rfl (hb hby d4_58)
  obtain ⟨T18, X18, e18, st18⟩ := getF X15 hx hZ hown (host := "") (Or.inl (hw _ (List.mem_of_getElem? (i := 20) rfl))) Via.refl e15 F_keys_a1 (g := (mkF m 70 #[.val (.ref a1), .val (.int p2), .val (.ref a3), .val (.long q4), .second, .val (.long (r9.toInt64)), .second, .val (.long (((r9.toInt64) <<< ((32 : Int32) &&& 0x3f).toInt64) ||| ((r11.toInt64) &&& (4294967295 : Int64)))), .second, .val (.long ((1 : Int64) <<< (r12 &&& 0x3f).toInt64)), .second, .val (.int r13), .unset] [(.ref a1)])) rfl rfl (hb hby d4_70)
  obtain ⟨T19, h19, X19, e19, W19, st19⟩ := stJ X18 hx hZ e18 Ar_w17 (j := r13) hin17 (g := (mkF m 77 #[.val (.ref a1), .val (.int p2), .val (.ref a3), .val (.long q4), .second, .val (.long (r9.toInt64)), .second, .val (.long (((r9.toInt64) <<< ((32 : Int32) &&& 0x3f).toInt64) ||| ((r11.toInt64) &&& (4294967295 : Int64)))), .second, .val (.long ((1 : Int64) <<< (r12 &&& 0x3f).toInt64)), .second, .val (.int r13), .unset] [(.long (((r9.toInt64) <<< ((32 : Int32) &&& 0x3f).toInt64) ||| ((r11.toInt64) &&& (4294967295 : Int64)))), (.int r13), (.ref w17)])) rfl rfl (hb hby d4_77)
  have N19 := Fr.snoc X19 N13 g_w17
  have K19 : Keep h0 h19 [w17, w14, a1] := (Keep.refl h0 [w17, w14, a1]).wr W19 (Or.inl (List.mem_of_getElem? (i := 0) rfl))
  obtain ⟨T20, X20, e20, st20⟩ := getF X19 hx hZ hown (host := "") (Or.inl (hw _ (List.mem_of_getElem? (i := 22) rfl))) Via.refl e19 (F_words_a1.other W19 (Or.inl hne17)) (g := (mkF m 79 #[.val (.ref a1), .val (.int p2), .val (.ref a3), .val (.long q4), .second, .val (.long (r9.toInt64)), .second, .val (.long (((r9.toInt64) <<< ((32 : Int32) &&& 0x3f).toInt64) ||| ((r11.toInt64) &&& (4294967295 : Int64)))), .second, .val (.long ((1 : Int64) <<< (r12 &&& 0x3f).toInt64)), .second, .val (.int r13), .unset] [(.ref a1)])) rfl rfl (hb hby d4_79)
  obtain ⟨T21, h21, X21, e21, W21, st21⟩ := stJ X20 hx hZ e20 (Ar_w14.other W19 hkw.symm) (j := r13) hin14 (g := (mkF m 86 #[.val (.ref a1), .val (.int p2), .val (.ref a3), .val (.long q4), .second, .val (.long (r9.toInt64)), .second, .val (.long (((r9.toInt64) <<< ((32 : Int32) &&& 0x3f).toInt64) ||| ((r11.toInt64) &&& (4294967295 : Int64)))), .second, .val (.long ((1 : Int64) <<< (r12 &&& 0x3f).toInt64)), .second, .val (.int r13), .unset] [(.long ((1 : Int64) <<< (r12 &&& 0x3f).toInt64)), (.int r13), (.ref w14)])) rfl rfl (hb hby d4_86)
  have N21 := Fr.snoc X21 N19 g_w14
  have K21 : Keep h0 h21 [w17, w14, a1] := K19.wr W21 (Or.inl (List.mem_of_getElem? (i := 1) rfl))
  obtain ⟨T23, X23, e23, st23⟩ := getF X21 hx hZ hown (host := "") (Or.inl (hw _ (List.mem_of_getElem? (i := 77) rfl))) Via.refl e21 ((F_size_a1.other W19 (Or.inl hne17)).other W21 (Or.inl hne14)) (g := (mkF m 89 #[.val (.ref a1), .val (.int p2), .val (.ref a3), .val (.long q4), .second, .val (.long (r9.toInt64)), .second, .val (.long (((r9.toInt64) <<< ((32 : Int32) &&& 0x3f).toInt64) ||| ((r11.toInt64) &&& (4294967295 : Int64)))), .second, .val (.long ((1 : Int64) <<< (r12 &&& 0x3f).toInt64)), .second, .val (.int r13), .unset] [(.ref a1), (.ref a1)])) rfl rfl (hb hby d4_89)
  obtain ⟨T24, h24, X24, e24, W24, st24⟩ := putF X23 hx hZ hown (host := "") (Or.inl (hw _ (List.mem_of_getElem? (i := 77) rfl))) Via.refl e23 ((F_size_a1.other W19 (Or.inl hne17)).other W21 (Or.inl hne14)) ((E_a1.wr W19).wr W21) (Or.inl (hw _ (List.mem_of_getElem? (i := 78) rfl))) (hw _ (List.mem_of_getElem? (i := 11) rfl)) (ty := .int) (by decide) rfl rfl (g := (mkF m 94 #[.val (.ref a1), .val (.int p2), .val (.ref a3), .val (.long q4), .second, .val (.long (r9.toInt64)), .second, .val (.long (((r9.toInt64) <<< ((32 : Int32) &&& 0x3f).toInt64) ||| ((r11.toInt64) &&& (4294967295 : Int64)))), .second, .val (.long ((1 : Int64) <<< (r12 &&& 0x3f).toInt64)), .second, .val (.int r13), .unset] [(.int (w22 + (1 : Int32))), (.ref a1)])) rfl rfl (hb hby d4_94)
  have Fw24 := ((F_size_a1.other W19 (Or.inl hne17)).other W21 (Or.inl hne14)).same W24
  have K24 : Keep h0 h24 [w17, w14, a1] := K21.wr W24 (Or.inl (List.mem_of_getElem? (i := 2) rfl))
  have N24 := Fr.snoc X24 N21 g_a1
  have Ar17 := ((Ar_w17.same W19).other W21 hkw).other W24 hne17.symm
  have Ar14 := ((Ar_w14.other W19 hkw.symm).same W21).other W24 hne14.symm
  obtain ⟨T25, X25, e25, st25⟩ := getF X24 hx hZ hown (host := "") (Or.inl (hw _ (List.mem_of_getElem? (i := 77) rfl))) Via.refl e24 Fw24 (g := (mkF m 99 #[.val (.ref a1), .val (.int p2), .val (.ref a3), .val (.long q4), .second, .val (.long (r9.toInt64)), .second, .val (.long (((r9.toInt64) <<< ((32 : Int32) &&& 0x3f).toInt64) ||| ((r11.toInt64) &&& (4294967295 : Int64)))), .second, .val (.long ((1 : Int64) <<< (r12 &&& 0x3f).toInt64)), .second, .val (.int r13), .unset] [(.ref a1), (.int (2 : Int32))])) rfl rfl (hb hby d4_99)
  obtain ⟨T26, X26, e26, st26⟩ := getF X25 hx hZ hown (host := "") (Or.inl (hw _ (List.mem_of_getElem? (i := 20) rfl))) Via.refl e25 (((F_keys_a1.other W19 (Or.inl hne17)).other W21 (Or.inl hne14)).other W24 (Or.inr (slot_ne (Or.inl (hw _ (List.mem_of_getElem? (i := 21) rfl))) (Or.inl (hw _ (List.mem_of_getElem? (i := 78) rfl))) (by decide) (t := (.array .long)) (t' := .int) (by decide) (by decide)))) (g := (mkF m 104 #[.val (.ref a1), .val (.int p2), .val (.ref a3), .val (.long q4), .second, .val (.long (r9.toInt64)), .second, .val (.long (((r9.toInt64) <<< ((32 : Int32) &&& 0x3f).toInt64) ||| ((r11.toInt64) &&& (4294967295 : Int64)))), .second, .val (.long ((1 : Int64) <<< (r12 &&& 0x3f).toInt64)), .second, .val (.int r13), .unset] [(.ref a1), (.int ((2 : Int32) * (w22 + (1 : Int32))))])) rfl rfl (hb hby d4_104)
  obtain ⟨fs, hr, hrun, hended, hW, hsame⟩ := X26.leave (v := some (.int (1 : Int32))) (fun h => by rw [Bd.returns] at h; cases h)
  refine ⟨_, _, pre0 _ ?_, hrun, hended, _, _, rfl, ?_, ⟨_, rfl⟩, hW, hsame.mono (by decide) (by decide)⟩
  · show Steps p.tables e below (s₁.setTop (mkF m 0 #[.val (.ref a1), .val (.int p2), .val (.ref a3), .val (.long q4), .second, .unset, .unset, .unset, .unset, .unset, .unset, .unset, .unset] [])) _
    refine XS.iloadN X0.here hx rfl (hb hby d4_0) rfl ?_
    show Steps p.tables e below (s₁.setTop (mkF m 1 #[.val (.ref a1), .val (.int p2), .val (.ref a3), .val (.long q4), .second, .unset, .unset, .unset, .unset, .unset, .unset, .unset, .unset] [(.int p2)])) _
    refine st6 _ ?_
    show Steps p.tables e below (T6.setTop (mkF m 4 #[.val (.ref a1), .val (.int p2), .val (.ref a3), .val (.long q4), .second, .unset, .unset, .unset, .unset, .unset, .unset, .unset, .unset] [(.int w5), (.int p2)])) _
    refine st7 _ ?_
    show Steps p.tables e below (T7.setTop (mkF m 7 #[.val (.ref a1), .val (.int p2), .val (.ref a3), .val (.long q4), .second, .unset, .unset, .unset, .unset, .unset, .unset, .unset, .unset] [(.int r7)])) _
    refine XS.aloadN X7.here hx rfl (hb hby d4_7) rfl rfl ?_
    show Steps p.tables e below (T7.setTop (mkF m 8 #[.val (.ref a1), .val (.int p2), .val (.ref a3), .val (.long q4), .second, .unset, .unset, .unset, .unset, .unset, .unset, .unset, .unset] [(.ref a3), (.int r7)])) _
    refine st8.trans ?_
    show Steps p.tables e below (T8.setTop (mkF m 11 #[.val (.ref a1), .val (.int p2), .val (.ref a3), .val (.long q4), .second, .unset, .unset, .unset, .unset, .unset, .unset, .unset, .unset] [(.int r8), (.int r7)])) _
    refine st9 _ ?_
    show Steps p.tables e below (T9.setTop (mkF m 14 #[.val (.ref a1), .val (.int p2), .val (.ref a3), .val (.long q4), .second, .unset, .unset, .unset, .unset, .unset, .unset, .unset, .unset] [(.int r9)])) _
    refine XS.i2l X9.here hx rfl (hb hby d4_14) rfl ?_
    show Steps p.tables e below (T9.setTop (mkF m 15 #[.val (.ref a1), .val (.int p2), .val (.ref a3), .val (.long q4), .second, .unset, .unset, .unset, .unset, .unset, .unset, .unset, .unset] [(.long (r9.toInt64))])) _
    refine XS.lstore X9.here hx rfl (hb hby d4_15) rfl (l' := #[.val (.ref a1), .val (.int p2), .val (.ref a3), .val (.long q4), .second, .val (.long (r9.toInt64)), .second, .unset, .unset, .unset, .unset, .unset, .unset]) rfl ?_
    show Steps p.tables e below (T9.setTop (mkF m 17 #[.val (.ref a1), .val (.int p2), .val (.ref a3), .val (.long q4), .second, .val (.long (r9.toInt64)), .second, .unset, .unset, .unset, .unset, .unset, .unset] [])) _
    refine XS.lload X9.here hx rfl (hb hby d4_17) rfl ?_
    show Steps p.tables e below (T9.setTop (mkF m 19 #[.val (.ref a1), .val (.int p2), .val (.ref a3), .val (.long q4), .second, .val (.long (r9.toInt64)), .second, .unset, .unset, .unset, .unset, .unset, .unset] [(.long (r9.toInt64))])) _
    refine XS.bipush X9.here hx rfl (hb hby d4_19) ?_
    show Steps p.tables e below (T9.setTop (mkF m 21 #[.val (.ref a1), .val (.int p2), .val (.ref a3), .val (.long q4), .second, .val (.long (r9.toInt64)), .second, .unset, .unset, .unset, .unset, .unset, .unset] [(.int (32 : Int32)), (.long (r9.toInt64))])) _
    refine XS.lshl X9.here hx rfl (hb hby d4_21) rfl ?_
    show Steps p.tables e below (T9.setTop (mkF m 22 #[.val (.ref a1), .val (.int p2), .val (.ref a3), .val (.long q4), .second, .val (.long (r9.toInt64)), .second, .unset, .unset, .unset, .unset, .unset, .unset] [(.long ((r9.toInt64) <<< ((32 : Int32) &&& 0x3f).toInt64))])) _
    refine XS.lloadN X9.here hx rfl (hb hby d4_22) rfl ?_
    show Steps p.tables e below (T9.setTop (mkF m 23 #[.val (.ref a1), .val (.int p2), .val (.ref a3), .val (.long q4), .second, .val (.long (r9.toInt64)), .second, .unset, .unset, .unset, .unset, .unset, .unset] [(.long q4), (.long ((r9.toInt64) <<< ((32 : Int32) &&& 0x3f).toInt64))])) _
    refine XS.bipush X9.here hx rfl (hb hby d4_23) ?_
    show Steps p.tables e below (T9.setTop (mkF m 25 #[.val (.ref a1), .val (.int p2), .val (.ref a3), .val (.long q4), .second, .val (.long (r9.toInt64)), .second, .unset, .unset, .unset, .unset, .unset, .unset] [(.int (64 : Int32)), (.long q4), (.long ((r9.toInt64) <<< ((32 : Int32) &&& 0x3f).toInt64))])) _
    refine st10 _ ?_
    show Steps p.tables e below (T10.setTop (mkF m 28 #[.val (.ref a1), .val (.int p2), .val (.ref a3), .val (.long q4), .second, .val (.long (r9.toInt64)), .second, .unset, .unset, .unset, .unset, .unset, .unset] [(.long r10), (.long ((r9.toInt64) <<< ((32 : Int32) &&& 0x3f).toInt64))])) _
    refine st11 _ ?_
    show Steps p.tables e below (T11.setTop (mkF m 31 #[.val (.ref a1), .val (.int p2), .val (.ref a3), .val (.long q4), .second, .val (.long (r9.toInt64)), .second, .unset, .unset, .unset, .unset, .unset, .unset] [(.int r11), (.long ((r9.toInt64) <<< ((32 : Int32) &&& 0x3f).toInt64))])) _
    refine XS.i2l X11.here hx rfl (hb hby d4_31) rfl ?_
    show Steps p.tables e below (T11.setTop (mkF m 32 #[.val (.ref a1), .val (.int p2), .val (.ref a3), .val (.long q4), .second, .val (.long (r9.toInt64)), .second, .unset, .unset, .unset, .unset, .unset, .unset] [(.long (r11.toInt64)), (.long ((r9.toInt64) <<< ((32 : Int32) &&& 0x3f).toInt64))])) _
    refine X11.ldc2Long hx hown (mvT hZ (hw _ (List.mem_of_getElem? (i := 56) rfl))) (g := (mkF m 32 #[.val (.ref a1), .val (.int p2), .val (.ref a3), .val (.long q4), .second, .val (.long (r9.toInt64)), .second, .unset, .unset, .unset, .unset, .unset, .unset] [(.long (r11.toInt64)), (.long ((r9.toInt64) <<< ((32 : Int32) &&& 0x3f).toInt64))])) rfl (hb hby d4_32) _ ?_
    show Steps p.tables e below (T11.setTop (mkF m 35 #[.val (.ref a1), .val (.int p2), .val (.ref a3), .val (.long q4), .second, .val (.long (r9.toInt64)), .second, .unset, .unset, .unset, .unset, .unset, .unset] [(.long (4294967295 : Int64)), (.long (r11.toInt64)), (.long ((r9.toInt64) <<< ((32 : Int32) &&& 0x3f).toInt64))])) _
    refine XS.land X11.here hx rfl (hb hby d4_35) rfl ?_
    show Steps p.tables e below (T11.setTop (mkF m 36 #[.val (.ref a1), .val (.int p2), .val (.ref a3), .val (.long q4), .second, .val (.long (r9.toInt64)), .second, .unset, .unset, .unset, .unset, .unset, .unset] [(.long ((r11.toInt64) &&& (4294967295 : Int64))), (.long ((r9.toInt64) <<< ((32 : Int32) &&& 0x3f).toInt64))])) _
    refine XS.lor X11.here hx rfl (hb hby d4_36) rfl ?_
    show Steps p.tables e below (T11.setTop (mkF m 37 #[.val (.ref a1), .val (.int p2), .val (.ref a3), .val (.long q4), .second, .val (.long (r9.toInt64)), .second, .unset, .unset, .unset, .unset, .unset, .unset] [(.long (((r9.toInt64) <<< ((32 : Int32) &&& 0x3f).toInt64) ||| ((r11.toInt64) &&& (4294967295 : Int64))))])) _
    refine XS.lstore X11.here hx rfl (hb hby d4_37) rfl (l' := #[.val (.ref a1), .val (.int p2), .val (.ref a3), .val (.long q4), .second, .val (.long (r9.toInt64)), .second, .val (.long (((r9.toInt64) <<< ((32 : Int32) &&& 0x3f).toInt64) ||| ((r11.toInt64) &&& (4294967295 : Int64)))), .second, .unset, .unset, .unset, .unset]) rfl ?_
    show Steps p.tables e below (T11.setTop (mkF m 39 #[.val (.ref a1), .val (.int p2), .val (.ref a3), .val (.long q4), .second, .val (.long (r9.toInt64)), .second, .val (.long (((r9.toInt64) <<< ((32 : Int32) &&& 0x3f).toInt64) ||| ((r11.toInt64) &&& (4294967295 : Int64)))), .second, .unset, .unset, .unset, .unset] [])) _
    refine XS.lconst X11.here hx rfl (hb hby d4_39) ?_
    show Steps p.tables e below (T11.setTop (mkF m 40 #[.val (.ref a1), .val (.int p2), .val (.ref a3), .val (.long q4), .second, .val (.long (r9.toInt64)), .second, .val (.long (((r9.toInt64) <<< ((32 : Int32) &&& 0x3f).toInt64) ||| ((r11.toInt64) &&& (4294967295 : Int64)))), .second, .unset, .unset, .unset, .unset] [(.long (1 : Int64))])) _
    refine XS.lloadN X11.here hx rfl (hb hby d4_40) rfl ?_
    show Steps p.tables e below (T11.setTop (mkF m 41 #[.val (.ref a1), .val (.int p2), .val (.ref a3), .val (.long q4), .second, .val (.long (r9.toInt64)), .second, .val (.long (((r9.toInt64) <<< ((32 : Int32) &&& 0x3f).toInt64) ||| ((r11.toInt64) &&& (4294967295 : Int64)))), .second, .unset, .unset, .unset, .unset] [(.long q4), (.long (1 : Int64))])) _
    refine XS.bipush X11.here hx rfl (hb hby d4_41) ?_
    show Steps p.tables e below (T11.setTop (mkF m 43 #[.val (.ref a1), .val (.int p2), .val (.ref a3), .val (.long q4), .second, .val (.long (r9.toInt64)), .second, .val (.long (((r9.toInt64) <<< ((32 : Int32) &&& 0x3f).toInt64) ||| ((r11.toInt64) &&& (4294967295 : Int64)))), .second, .unset, .unset, .unset, .unset] [(.int (64 : Int32)), (.long q4), (.long (1 : Int64))])) _
    refine st12 _ ?_
    show Steps p.tables e below (T12.setTop (mkF m 46 #[.val (.ref a1), .val (.int p2), .val (.ref a3), .val (.long q4), .second, .val (.long (r9.toInt64)), .second, .val (.long (((r9.toInt64) <<< ((32 : Int32) &&& 0x3f).toInt64) ||| ((r11.toInt64) &&& (4294967295 : Int64)))), .second, .unset, .unset, .unset, .unset] [(.int r12), (.long (1 : Int64))])) _
    refine XS.lshl X12.here hx rfl (hb hby d4_46) rfl ?_
    show Steps p.tables e below (T12.setTop (mkF m 47 #[.val (.ref a1), .val (.int p2), .val (.ref a3), .val (.long q4), .second, .val (.long (r9.toInt64)), .second, .val (.long (((r9.toInt64) <<< ((32 : Int32) &&& 0x3f).toInt64) ||| ((r11.toInt64) &&& (4294967295 : Int64)))), .second, .unset, .unset, .unset, .unset] [(.long ((1 : Int64) <<< (r12 &&& 0x3f).toInt64))])) _
    refine XS.lstore X12.here hx rfl (hb hby d4_47) rfl (l' := #[.val (.ref a1), .val (.int p2), .val (.ref a3), .val (.long q4), .second, .val (.long (r9.toInt64)), .second, .val (.long (((r9.toInt64) <<< ((32 : Int32) &&& 0x3f).toInt64) ||| ((r11.toInt64) &&& (4294967295 : Int64)))), .second, .val (.long ((1 : Int64) <<< (r12 &&& 0x3f).toInt64)), .second, .unset, .unset]) rfl ?_
    show Steps p.tables e below (T12.setTop (mkF m 49 #[.val (.ref a1), .val (.int p2), .val (.ref a3), .val (.long q4), .second, .val (.long (r9.toInt64)), .second, .val (.long (((r9.toInt64) <<< ((32 : Int32) &&& 0x3f).toInt64) ||| ((r11.toInt64) &&& (4294967295 : Int64)))), .second, .val (.long ((1 : Int64) <<< (r12 &&& 0x3f).toInt64)), .second, .unset, .unset] [])) _
    refine XS.aloadN X12.here hx rfl (hb hby d4_49) rfl rfl ?_
    show Steps p.tables e below (T12.setTop (mkF m 50 #[.val (.ref a1), .val (.int p2), .val (.ref a3), .val (.long q4), .second, .val (.long (r9.toInt64)), .second, .val (.long (((r9.toInt64) <<< ((32 : Int32) &&& 0x3f).toInt64) ||| ((r11.toInt64) &&& (4294967295 : Int64)))), .second, .val (.long ((1 : Int64) <<< (r12 &&& 0x3f).toInt64)), .second, .unset, .unset] [(.ref a1)])) _
    refine XS.lload X12.here hx rfl (hb hby d4_50) rfl ?_
    show Steps p.tables e below (T12.setTop (mkF m 52 #[.val (.ref a1), .val (.int p2), .val (.ref a3), .val (.long q4), .second, .val (.long (r9.toInt64)), .second, .val (.long (((r9.toInt64) <<< ((32 : Int32) &&& 0x3f).toInt64) ||| ((r11.toInt64) &&& (4294967295 : Int64)))), .second, .val (.long ((1 : Int64) <<< (r12 &&& 0x3f).toInt64)), .second, .unset, .unset] [(.long (((r9.toInt64) <<< ((32 : Int32) &&& 0x3f).toInt64) ||| ((r11.toInt64) &&& (4294967295 : Int64)))), (.ref a1)])) _
    refine st13.trans ?_
    show Steps p.tables e below (T13.setTop (mkF m 55 #[.val (.ref a1), .val (.int p2), .val (.ref a3), .val (.long q4), .second, .val (.long (r9.toInt64)), .second, .val (.long (((r9.toInt64) <<< ((32 : Int32) &&& 0x3f).toInt64) ||| ((r11.toInt64) &&& (4294967295 : Int64)))), .second, .val (.long ((1 : Int64) <<< (r12 &&& 0x3f).toInt64)), .second, .unset, .unset] [(.int r13)])) _
    refine XS.istore X13.here hx rfl (hb hby d4_55) rfl (l' := #[.val (.ref a1), .val (.int p2), .val (.ref a3), .val (.long q4), .second, .val (.long (r9.toInt64)), .second, .val (.long (((r9.toInt64) <<< ((32 : Int32) &&& 0x3f).toInt64) ||| ((r11.toInt64) &&& (4294967295 : Int64)))), .second, .val (.long ((1 : Int64) <<< (r12 &&& 0x3f).toInt64)), .second, .val (.int r13), .unset]) rfl ?_
    show Steps p.tables e below (T13.setTop (mkF m 57 #[.val (.ref a1), .val (.int p2), .val (.ref a3), .val (.long q4), .second, .val (.long (r9.toInt64)), .second, .val (.long (((r9.toInt64) <<< ((32 : Int32) &&& 0x3f).toInt64) ||| ((r11.toInt64) &&& (4294967295 : Int64)))), .second, .val (.long ((1 : Int64) <<< (r12 &&& 0x3f).toInt64)), .second, .val (.int r13), .unset] [])) _
    refine XS.aloadN X13.here hx rfl (hb hby d4_57) rfl rfl ?_
    show Steps p.tables e below (T13.setTop (mkF m 58 #[.val (.ref a1), .val (.int p2), .val (.ref a3), .val (.long q4), .second, .val (.long (r9.toInt64)), .second, .val (.long (((r9.toInt64) <<< ((32 : Int32) &&& 0x3f).toInt64) ||| ((r11.toInt64) &&& (4294967295 : Int64)))), .second, .val (.long ((1 : Int64) <<< (r12 &&& 0x3f).toInt64)), .second, .val (.int r13), .unset] [(.ref a1)])) _
    refine st15 _ ?_
    show Steps p.tables e below (T15.setTop (mkF m 61 #[.val (.ref a1), .val (.int p2), .val (.ref a3), .val (.long q4), .second, .val (.long (r9.toInt64)), .second, .val (.long (((r9.toInt64) <<< ((32 : Int32) &&& 0x3f).toInt64) ||| ((r11.toInt64) &&& (4294967295 : Int64)))), .second, .val (.long ((1 : Int64) <<< (r12 &&& 0x3f).toInt64)), .second, .val (.int r13), .unset] [(.ref w14)])) _
    refine XS.iload X15.here hx rfl (hb hby d4_61) rfl ?_
    show Steps p.tables e below (T15.setTop (mkF m 63 #[.val (.ref a1), .val (.int p2), .val (.ref a3), .val (.long q4), .second, .val (.long (r9.toInt64)), .second, .val (.long (((r9.toInt64) <<< ((32 : Int32) &&& 0x3f).toInt64) ||| ((r11.toInt64) &&& (4294967295 : Int64)))), .second, .val (.long ((1 : Int64) <<< (r12 &&& 0x3f).toInt64)), .second, .val (.int r13), .unset] [(.int r13), (.ref w14)])) _
    refine X15.laload hx (j := r13) (v := (.long (g r13.toNatClampNeg))) (by rw [e15]; exact Ar_w14.1) (State.isArrayOf_alike hZ.alike Ar_w14.2.1) Ar_w14.2.2 hin14 hat14 (g := (mkF m 63 #[.val (.ref a1), .val (.int p2), .val (.ref a3), .val (.long q4), .second, .val (.long (r9.toInt64)), .second, .val (.long (((r9.toInt64) <<< ((32 : Int32) &&& 0x3f).toInt64) ||| ((r11.toInt64) &&& (4294967295 : Int64)))), .second, .val (.long ((1 : Int64) <<< (r12 &&& 0x3f).toInt64)), .second, .val (.int r13), .unset] [(.int r13), (.ref w14)])) rfl rfl (hb hby d4_63) _ ?_
    show Steps p.tables e below (T15.setTop (mkF m 64 #[.val (.ref a1), .val (.int p2), .val (.ref a3), .val (.long q4), .second, .val (.long (r9.toInt64)), .second, .val (.long (((r9.toInt64) <<< ((32 : Int32) &&& 0x3f).toInt64) ||| ((r11.toInt64) &&& (4294967295 : Int64)))), .second, .val (.long ((1 : Int64) <<< (r12 &&& 0x3f).toInt64)), .second, .val (.int r13), .unset] [(.long (g r13.toNatClampNeg))])) _
    refine XS.lconst X15.here hx rfl (hb hby d4_64) ?_
    show Steps p.tables e below (T15.setTop (mkF m 65 #[.val (.ref a1), .val (.int p2), .val (.ref a3), .val (.long q4), .second, .val (.long (r9.toInt64)), .second, .val (.long (((r9.toInt64) <<< ((32 : Int32) &&& 0x3f).toInt64) ||| ((r11.toInt64) &&& (4294967295 : Int64)))), .second, .val (.long ((1 : Int64) <<< (r12 &&& 0x3f).toInt64)), .second, .val (.int r13), .unset] [(.long (0 : Int64)), (.long (g r13.toNatClampNeg))])) _
    refine XS.lcmp X15.here hx rfl (hb hby d4_65) rfl ?_
    show Steps p.tables e below (T15.setTop (mkF m 66 #[.val (.ref a1), .val (.int p2), .val (.ref a3), .val (.long q4), .second, .val (.long (r9.toInt64)), .second, .val (.long (((r9.toInt64) <<< ((32 : Int32) &&& 0x3f).toInt64) ||| ((r11.toInt64) &&& (4294967295 : Int64)))), .second, .val (.long ((1 : Int64) <<< (r12 &&& 0x3f).toInt64)), .second, .val (.int r13), .unset] [(.int (lcmpW (g r13.toNatClampNeg) (0 : Int64)))])) _
    refine XS.ifNo X15.here hx rfl (hb hby d4_66) rfl ((if0 _ _).trans (teq ((lw_eq _ _).mpr hg0)).2) ?_
    show Steps p.tables e below (T15.setTop (mkF m 69 #[.val (.ref a1), .val (.int p2), .val (.ref a3), .val (.long q4), .second, .val (.long (r9.toInt64)), .second, .val (.long (((r9.toInt64) <<< ((32 : Int32) &&& 0x3f).toInt64) ||| ((r11.toInt64) &&& (4294967295 : Int64)))), .second, .val (.long ((1 : Int64) <<< (r12 &&& 0x3f).toInt64)), .second, .val (.int r13), .unset] [])) _
    refine XS.aloadN X15.here hx rfl (hb hby d4_69) rfl rfl ?_
    show Steps p.tables e below (T15.setTop (mkF m 70 #[.val (.ref a1), .val (.int p2), .val (.ref a3), .val (.long q4), .second, .val (.long (r9.toInt64)), .second, .val (.long (((r9.toInt64) <<< ((32 : Int32) &&& 0x3f).toInt64) ||| ((r11.toInt64) &&& (4294967295 : Int64)))), .second, .val (.long ((1 : Int64) <<< (r12 &&& 0x3f).toInt64)), .second, .val (.int r13), .unset] [(.ref a1)])) _
    refine st18 _ ?_
    show Steps p.tables e below (T18.setTop (mkF m 73 #[.val (.ref a1), .val (.int p2), .val (.ref a3), .val (.long q4), .second, .val (.long (r9.toInt64)), .second, .val (.long (((r9.toInt64) <<< ((32 : Int32) &&& 0x3f).toInt64) ||| ((r11.toInt64) &&& (4294967295 : Int64)))), .second, .val (.long ((1 : Int64) <<< (r12 &&& 0x3f).toInt64)), .second, .val (.int r13), .unset] [(.ref w17)])) _
    refine XS.iload X18.here hx rfl (hb hby d4_73) rfl ?_
    show Steps p.tables e below (T18.setTop (mkF m 75 #[.val (.ref a1), .val (.int p2), .val (.ref a3), .val (.long q4), .second, .val (.long (r9.toInt64)), .second, .val (.long (((r9.toInt64) <<< ((32 : Int32) &&& 0x3f).toInt64) ||| ((r11.toInt64) &&& (4294967295 : Int64)))), .second, .val (.long ((1 : Int64) <<< (r12 &&& 0x3f).toInt64)), .second, .val (.int r13), .unset] [(.int r13), (.ref w17)])) _
    refine XS.lload X18.here hx rfl (hb hby d4_75) rfl ?_
    show Steps p.tables e below (T18.setTop (mkF m 77 #[.val (.ref a1), .val (.int p2), .val (.ref a3), .val (.long q4), .second, .val (.long (r9.toInt64)), .second, .val (.long (((r9.toInt64) <<< ((32 : Int32) &&& 0x3f).toInt64) ||| ((r11.toInt64) &&& (4294967295 : Int64)))), .second, .val (.long ((1 : Int64) <<< (r12 &&& 0x3f).toInt64)), .second, .val (.int r13), .unset] [(.long (((r9.toInt64) <<< ((32 : Int32) &&& 0x3f).toInt64) ||| ((r11.toInt64) &&& (4294967295 : Int64)))), (.int r13), (.ref w17)])) _
    refine st19 _ ?_
    show Steps p.tables e below (T19.setTop (mkF m 78 #[.val (.ref a1), .val (.int p2), .val (.ref a3), .val (.long q4), .second, .val (.long (r9.toInt64)), .second, .val (.long (((r9.toInt64) <<< ((32 : Int32) &&& 0x3f).toInt64) ||| ((r11.toInt64) &&& (4294967295 : Int64)))), .second, .val (.long ((1 : Int64) <<< (r12 &&& 0x3f).toInt64)), .second, .val (.int r13), .unset] [])) _
    refine XS.aloadN X19.here hx rfl (hb hby d4_78) rfl rfl ?_
    show Steps p.tables e below (T19.setTop (mkF m 79 #[.val (.ref a1), .val (.int p2), .val (.ref a3), .val (.long q4), .second, .val (.long (r9.toInt64)), .second, .val (.long (((r9.toInt64) <<< ((32 : Int32) &&& 0x3f).toInt64) ||| ((r11.toInt64) &&& (4294967295 : Int64)))), .second, .val (.long ((1 : Int64) <<< (r12 &&& 0x3f).toInt64)), .second, .val (.int r13), .unset] [(.ref a1)])) _
    refine st20 _ ?_
    show Steps p.tables e below (T20.setTop (mkF m 82 #[.val (.ref a1), .val (.int p2), .val (.ref a3), .val (.long q4), .second, .val (.long (r9.toInt64)), .second, .val (.long (((r9.toInt64) <<< ((32 : Int32) &&& 0x3f).toInt64) ||| ((r11.toInt64) &&& (4294967295 : Int64)))), .second, .val (.long ((1 : Int64) <<< (r12 &&& 0x3f).toInt64)), .second, .val (.int r13), .unset] [(.ref w14)])) _
    refine XS.iload X20.here hx rfl (hb hby d4_82) rfl ?_
    show Steps p.tables e below (T20.setTop (mkF m 84 #[.val (.ref a1), .val (.int p2), .val (.ref a3), .val (.long q4), .second, .val (.long (r9.toInt64)), .second, .val (.long (((r9.toInt64) <<< ((32 : Int32) &&& 0x3f).toInt64) ||| ((r11.toInt64) &&& (4294967295 : Int64)))), .second, .val (.long ((1 : Int64) <<< (r12 &&& 0x3f).toInt64)), .second, .val (.int r13), .unset] [(.int r13), (.ref w14)])) _
    refine XS.lload X20.here hx rfl (hb hby d4_84) rfl ?_
    show Steps p.tables e below (T20.setTop (mkF m 86 #[.val (.ref a1), .val (.int p2), .val (.ref a3), .val (.long q4), .second, .val (.long (r9.toInt64)), .second, .val (.long (((r9.toInt64) <<< ((32 : Int32) &&& 0x3f).toInt64) ||| ((r11.toInt64) &&& (4294967295 : Int64)))), .second, .val (.long ((1 : Int64) <<< (r12 &&& 0x3f).toInt64)), .second, .val (.int r13), .unset] [(.long ((1 : Int64) <<< (r12 &&& 0x3f).toInt64)), (.int r13), (.ref w14)])) _
    refine st21 _ ?_
    show Steps p.tables e below (T21.setTop (mkF m 87 #[.val (.ref a1), .val (.int p2), .val (.ref a3), .val (.long q4), .second, .val (.long (r9.toInt64)), .second, .val (.long (((r9.toInt64) <<< ((32 : Int32) &&& 0x3f).toInt64) ||| ((r11.toInt64) &&& (4294967295 : Int64)))), .second, .val (.long ((1 : Int64) <<< (r12 &&& 0x3f).toInt64)), .second, .val (.int r13), .unset] [])) _
    refine XS.aloadN X21.here hx rfl (hb hby d4_87) rfl rfl ?_
    show Steps p.tables e below (T21.setTop (mkF m 88 #[.val (.ref a1), .val (.int p2), .val (.ref a3), .val (.long q4), .second, .val (.long (r9.toInt64)), .second, .val (.long (((r9.toInt64) <<< ((32 : Int32) &&& 0x3f).toInt64) ||| ((r11.toInt64) &&& (4294967295 : Int64)))), .second, .val (.long ((1 : Int64) <<< (r12 &&& 0x3f).toInt64)), .second, .val (.int r13), .unset] [(.ref a1)])) _
    refine XS.dup X21.here hx rfl (hb hby d4_88) rfl rfl ?_
    show Steps p.tables e below (T21.setTop (mkF m 89 #[.val (.ref a1), .val (.int p2), .val (.ref a3), .val (.long q4), .second, .val (.long (r9.toInt64)), .second, .val (.long (((r9.toInt64) <<< ((32 : Int32) &&& 0x3f).toInt64) ||| ((r11.toInt64) &&& (4294967295 : Int64)))), .second, .val (.long ((1 : Int64) <<< (r12 &&& 0x3f).toInt64)), .second, .val (.int r13), .unset] [(.ref a1), (.ref a1)])) _
    refine st23 _ ?_
    show Steps p.tables e below (T23.setTop (mkF m 92 #[.val (.ref a1), .val (.int p2), .val (.ref a3), .val (.long q4), .second, .val (.long (r9.toInt64)), .second, .val (.long (((r9.toInt64) <<< ((32 : Int32) &&& 0x3f).toInt64) ||| ((r11.toInt64) &&& (4294967295 : Int64)))), .second, .val (.long ((1 : Int64) <<< (r12 &&& 0x3f).toInt64)), .second, .val (.int r13), .unset] [(.int w22), (.ref a1)])) _
    refine XS.iconst X23.here hx rfl (hb hby d4_92) ?_
    show Steps p.tables e below (T23.setTop (mkF m 93 #[.val (.ref a1), .val (.int p2), .val (.ref a3), .val (.long q4), .second, .val (.long (r9.toInt64)), .second, .val (.long (((r9.toInt64) <<< ((32 : Int32) &&& 0x3f).toInt64) ||| ((r11.toInt64) &&& (4294967295 : Int64)))), .second, .val (.long ((1 : Int64) <<< (r12 &&& 0x3f).toInt64)), .second, .val (.int r13), .unset] [(.int (1 : Int32)), (.int w22), (.ref a1)])) _
    refine XS.iadd X23.here hx rfl (hb hby d4_93) rfl ?_
    show Steps p.tables e below (T23.setTop (mkF m 94 #[.val (.ref a1), .val (.int p2), .val (.ref a3), .val (.long q4), .second, .val (.long (r9.toInt64)), .second, .val (.long (((r9.toInt64) <<< ((32 : Int32) &&& 0x3f).toInt64) ||| ((r11.toInt64) &&& (4294967295 : Int64)))), .second, .val (.long ((1 : Int64) <<< (r12 &&& 0x3f).toInt64)), .second, .val (.int r13), .unset] [(.int (w22 + (1 : Int32))), (.ref a1)])) _
    refine st24 _ ?_
    show Steps p.tables e below (T24.setTop (mkF m 97 #[.val (.ref a1), .val (.int p2), .val (.ref a3), .val (.long q4), .second, .val (.long (r9.toInt64)), .second, .val (.long (((r9.toInt64) <<< ((32 : Int32) &&& 0x3f).toInt64) ||| ((r11.toInt64) &&& (4294967295 : Int64)))), .second, .val (.long ((1 : Int64) <<< (r12 &&& 0x3f).toInt64)), .second, .val (.int r13), .unset] [])) _
    refine XS.iconst X24.here hx rfl (hb hby d4_97) ?_
    show Steps p.tables e below (T24.setTop (mkF m 98 #[.val (.ref a1), .val (.int p2), .val (.ref a3), .val (.long q4), .second, .val (.long (r9.toInt64)), .second, .val (.long (((r9.toInt64) <<< ((32 : Int32) &&& 0x3f).toInt64) ||| ((r11.toInt64) &&& (4294967295 : Int64)))), .second, .val (.long ((1 : Int64) <<< (r12 &&& 0x3f).toInt64)), .second, .val (.int r13), .unset] [(.int (2 : Int32))])) _
    refine XS.aloadN X24.here hx rfl (hb hby d4_98) rfl rfl ?_
    show Steps p.tables e below (T24.setTop (mkF m 99 #[.val (.ref a1), .val (.int p2), .val (.ref a3), .val (.long q4), .second, .val (.long (r9.toInt64)), .second, .val (.long (((r9.toInt64) <<< ((32 : Int32) &&& 0x3f).toInt64) ||| ((r11.toInt64) &&& (4294967295 : Int64)))), .second, .val (.long ((1 : Int64) <<< (r12 &&& 0x3f).toInt64)), .second, .val (.int r13), .unset] [(.ref a1), (.int (2 : Int32))])) _
    refine st25 _ ?_
    show Steps p.tables e below (T25.setTop (mkF m 102 #[.val (.ref a1), .val (.int p2), .val (.ref a3), .val (.long q4), .second, .val (.long (r9.toInt64)), .second, .val (.long (((r9.toInt64) <<< ((32 : Int32) &&& 0x3f).toInt64) ||| ((r11.toInt64) &&& (4294967295 : Int64)))), .second, .val (.long ((1 : Int64) <<< (r12 &&& 0x3f).toInt64)), .second, .val (.int r13), .unset] [(.int (w22 + (1 : Int32))), (.int (2 : Int32))])) _
    refine XS.imul X25.here hx rfl (hb hby d4_102) rfl ?_
    show Steps p.tables e below (T25.setTop (mkF m 103 #[.val (.ref a1), .val (.int p2), .val (.ref a3), .val (.long q4), .second, .val (.long (r9.toInt64)), .second, .val (.long (((r9.toInt64) <<< ((32 : Int32) &&& 0x3f).toInt64) ||| ((r11.toInt64) &&& (4294967295 : Int64)))), .second, .val (.long ((1 : Int64) <<< (r12 &&& 0x3f).toInt64)), .second, .val (.int r13), .unset] [(.int ((2 : Int32) * (w22 + (1 : Int32))))])) _
    refine XS.aloadN X25.here hx rfl (hb hby d4_103) rfl rfl ?_
    show Steps p.tables e below (T25.setTop (mkF m 104 #[.val (.ref a1), .val (.int p2), .val (.ref a3), .val (.long q4), .second, .val (.long (r9.toInt64)), .second, .val (.long (((r9.toInt64) <<< ((32 : Int32) &&& 0x3f).toInt64) ||| ((r11.toInt64) &&& (4294967295 : Int64)))), .second, .val (.long ((1 : Int64) <<< (r12 &&& 0x3f).toInt64)), .second, .val (.int r13), .unset] [(.ref a1), (.int ((2 : Int32) * (w22 + (1 : Int32))))])) _
    refine st26 _ ?_
    show Steps p.tables e below (T26.setTop (mkF m 107 #[.val (.ref a1), .val (.int p2), .val (.ref a3), .val (.long q4), .second, .val (.long (r9.toInt64)), .second, .val (.long (((r9.toInt64) <<< ((32 : Int32) &&& 0x3f).toInt64) ||| ((r11.toInt64) &&& (4294967295 : Int64)))), .second, .val (.long ((1 : Int64) <<< (r12 &&& 0x3f).toInt64)), .second, .val (.int r13), .unset] [(.ref w17), (.int ((2 : Int32) * (w22 + (1 : Int32))))])) _
    refine X26.arraylength hx (by rw [e26]; exact Ar17.1) (State.isArrayOf_alike hZ.alike Ar17.2.1) (g := (mkF m 107 #[.val (.ref a1), .val (.int p2), .val (.ref a3), .val (.long q4), .second, .val (.long (r9.toInt64)), .second, .val (.long (((r9.toInt64) <<< ((32 : Int32) &&& 0x3f).toInt64) ||| ((r11.toInt64) &&& (4294967295 : Int64)))), .second, .val (.long ((1 : Int64) <<< (r12 &&& 0x3f).toInt64)), .second, .val (.int r13), .unset] [(.ref w17), (.int ((2 : Int32) * (w22 + (1 : Int32))))])) rfl rfl (hb hby d4_107) _ ?_
    rw [len_of (z := (1024 : Int32)) ((own_set s17 H17 _ _).1.trans (by decide)) (by decide)]
    show Steps p.tables e below (T26.setTop (mkF m 108 #[.val (.ref a1), .val (.int p2), .val (.ref a3), .val (.long q4), .second, .val (.long (r9.toInt64)), .second, .val (.long (((r9.toInt64) <<< ((32 : Int32) &&& 0x3f).toInt64) ||| ((r11.toInt64) &&& (4294967295 : Int64)))), .second, .val (.long ((1 : Int64) <<< (r12 &&& 0x3f).toInt64)), .second, .val (.int r13), .unset] [(.int (1024 : Int32)), (.int ((2 : Int32) * (w22 + (1 : Int32))))])) _
    refine XS.icmpYes X26.here hx rfl (pc0 := 108) (pc' := 115) rfl (hb hby d4_108) rfl (flt hsz).2.2.2 (by decide) (by decide) ?_
    show Steps p.tables e below (T26.setTop (mkF m 115 #[.val (.ref a1), .val (.int p2), .val (.ref a3), .val (.long q4), .second, .val (.long (r9.toInt64)), .second, .val (.long (((r9.toInt64) <<< ((32 : Int32) &&& 0x3f).toInt64) ||| ((r11.toInt64) &&& (4294967295 : Int64)))), .second, .val (.long ((1 : Int64) <<< (r12 &&& 0x3f).toInt64)), .second, .val (.int r13), .unset] [])) _
    refine XS.iconst X26.here hx rfl (hb hby d4_115) ?_
    show Steps p.tables e below (T26.setTop (mkF m 116 #[.val (.ref a1), .val (.int p2), .val (.ref a3), .val (.long q4), .second, .val (.long (r9.toInt64)), .second, .val (.long (((r9.toInt64) <<< ((32 : Int32) &&& 0x3f).toInt64) ||| ((r11.toInt64) &&& (4294967295 : Int64)))), .second, .val (.long ((1 : Int64) <<< (r12 &&& 0x3f).toInt64)), .second, .val (.int r13), .unset] [(.int (1 : Int32))])) _
    exact retN X26 hx (t := .boolean) Bd.returns (by simp) (hb hby d4_116) hr
  · show own_QA Z a1 w17 w14 h0 n0 (1 : Int32) (own_upd f r13.toNatClampNeg (((r9.toInt64) <<< ((32 : Int32) &&& 0x3f).toInt64) ||| ((r11.toInt64) &&& (4294967295 : Int64)))) (own_upd g r13.toNatClampNeg ((1 : Int64) <<< (r12 &&& 0x3f).toInt64)) (w22 + (1 : Int32)) _ T26.heap _
    rw [e26]
    exact ⟨rfl, N24, K24, (((E_a1.wr W19).wr W21).wr W24), (((F_keys_a1.other W19 (Or.inl hne17)).other W21 (Or.inl hne14)).other W24 (Or.inr (slot_ne (Or.inl (hw _ (List.mem_of_getElem? (i := 21) rfl))) (Or.inl (hw _ (List.mem_of_getElem? (i := 78) rfl))) (by decide) (t := (.array .long)) (t' := .int) (by decide) (by decide)))), (((F_words_a1.other W19 (Or.inl hne17)).other W21 (Or.inl hne14)).other W24 (Or.inr (slot_ne (Or.inl (hw _ (List.mem_of_getElem? (i := 23) rfl))) (Or.inl (hw _ (List.mem_of_getElem? (i := 78) rfl))) (by decide) (t := (.array .long)) (t' := .int) (by decide) (by decide)))), Fw24, ⟨_, Ar17, own_set s17 H17 _ _⟩, ⟨_, Ar14, own_set s14 H14 _ _⟩, hkw⟩
theorem d4_117 : decode prog_41_method_2_code 117 = .ok (.aload_n 0, 1) := by decide +kernel
theorem d4_118 : decode prog_41_method_2_code 118 = .ok (.getfield 15, 3) := by decide +kernel
theorem d4_121 : decode prog_41_method_2_code 121 = .ok (.iload 11, 2) := by decide +kernel
theorem d4_123 : decode prog_41_method_2_code 123 = .ok (.laload, 1) := by decide +kernel
theorem d4_124 : decode prog_41_method_2_code 124 = .ok (.lload 9, 2) := by decide +kernel
theorem d4_126 : decode prog_41_method_2_code 126 = .ok (.land, 1) := by decide +kernel
theorem d4_127 : decode prog_41_method_2_code 127 = .ok (.lconst 0, 1) := by decide +kernel
theorem d4_128 : decode prog_41_method_2_code 128 = .ok (.lcmp, 1) := by decide +kernel
theorem d4_129 : decode prog_41_method_2_code 129 = .ok (.ifCond .ne 7, 3) := by decide +kernel
theorem d4_136 : decode prog_41_method_2_code 136 = .ok (.iconst 0, 1) := by decide +kernel
theorem d4_137 : decode prog_41_method_2_code 137 = .ok (.istore 12, 2) := by decide +kernel
theorem d4_139 : decode prog_41_method_2_code 139 = .ok (.aload_n 0, 1) := by decide +kernel
theorem d4_140 : decode prog_41_method_2_code 140 = .ok (.getfield 15, 3) := by decide +kernel
theorem d4_143 : decode prog_41_method_2_code 143 = .ok (.iload 11, 2) := by decide +kernel
theorem d4_145 : decode prog_41_method_2_code 145 = .ok (.dup2, 1) := by decide +kernel
theorem d4_146 : decode prog_41_method_2_code 146 = .ok (.laload, 1) := by decide +kernel
theorem d4_147 : decode prog_41_method_2_code 147 = .ok (.lload 9, 2) := by decide +kernel
theorem d4_149 : decode prog_41_method_2_code 149 = .ok (.lor, 1) := by decide +kernel
theorem d4_150 : decode prog_41_method_2_code 150 = .ok (.lastore, 1) := by decide +kernel
theorem d4_151 : decode prog_41_method_2_code 151 = .ok (.iload 12, 2) := by decide +kernel
theorem d4_153 : decode prog_41_method_2_code 153 = .ok (.ireturn, 1) := by decide +kernel
set_option maxRecDepth 65536 in
set_option maxHeartbeats 40000000 in
theorem rm4_tt (l : Launch) (Z : State) (a0 : Array Value) (hw : ∀ d ∈ tables_1, d.before a0 Z = true) (ws : List Jvm.Cond) (a1 : Addr) (p2 : Int32) (a3 : Addr) (q4 : Int64) (w5 : Int32) (r7 : Int32) (r8 : Int32) (r9 : Int32) (r10 : Int64) (r11 : Int32) (r12 : Int32) (r13 : Int32) (w14 : Addr) (w17 : Addr) (w22 : Int32) (f g : Nat → Int64) (h0 : Heap) (n0 : Nat) (Z0 : n0 ≤ h0.size) (S_KINDS : Sta Z h0 "com/example/crackline/crackline/SeenValues" "KINDS" "I" (.int w5)) (Hm7 : M5 l Z [] p2 w5 h0 n0 (some (.int r7))) (Hm8 : M6 l Z [] a3 h0 n0 (some (.int r8))) (E_a3 : Exa Z h0 a3 "com/example/crackline/crackline/PriceKind") (Hm9 : M7 l Z [] r7 r8 h0 n0 (some (.int r9))) (Hm10 : M8 l Z [] q4 (64 : Int32) h0 n0 (some (.long r10))) (Hm11 : M10 l Z [] r10 h0 n0 (some (.int r11))) (Hm12 : M11 l Z [] q4 (64 : Int32) h0 n0 (some (.int r12))) (Hm13 : M13 l Z [] a1 (((r9.toInt64) <<< ((32 : Int32) &&& 0x3f).toInt64) ||| ((r11.toInt64) &&& (4294967295 : Int64))) h0 n0 (some (.int r13))) (HS : own_S Z h0 a1 w17 w14 f g w22) (hir : 0 ≤ r13.toInt ∧ r13.toInt < 1024) (g_a1 : n0 ≤ a1) (g_w17 : n0 ≤ w17) (g_w14 : n0 ≤ w14) (hg0 : ¬ g r13.toNatClampNeg = 0) (hg1 : ¬ (g r13.toNatClampNeg &&& ((1 : Int64) <<< (r12 &&& 0x3f).toInt64)) = 0) :
    MetFree l (⟨"com/example/crackline/crackline/SeenValues", "add", "(ILcom/example/crackline/crackline/PriceKind;J)Z"⟩ : MethodName) (head1 (Jvm.Cond.code (⟨"com/example/crackline/crackline/SeenValues", "add", "(ILcom/example/crackline/crackline/PriceKind;J)Z"⟩ : MethodName) prog_41_method_2_code 13 (some .boolean) :: ws) ({ frames := 3, cells := 0, slots := 0, locals := 46 } : Room)) (fun a U => a = #[(.ref a1), (.int p2), (.ref a3), (.long q4)] ∧ Z.Warmed39 U.vm ∧ U.heap = h0) (fun _ _ _ _ _ => True) (fun _ U o U' => ∃ v L, o = .returned v ∧ own_QA Z a1 w17 w14 h0 n0 (0 : Int32) f (own_upd g r13.toNatClampNeg (g r13.toNatClampNeg ||| ((1 : Int64) <<< (r12 &&& 0x3f).toInt64))) w22 v U'.heap L ∧ FrameEnd U o U' L ({ frames := 3, cells := 0, slots := 0, locals := 46 } : Room).cells ({ frames := 3, cells := 0, slots := 0, locals := 46 } : Room).slots) := by
  refine MetFree.of_bodySF (plainFor_of_name pn_4) hisR ?_
  intro p e s m args below meth c s₁ Bd hml0 hP hK
  obtain ⟨rfl, hZ, hh⟩ := hP
  have hx := Bd.exec
  have hby := Bd.bytes
  have hml : c.maxLocals = 13 := hml0
  have hown : s.vm.findClass "com/example/crackline/crackline/SeenValues" = some m.cls := findClass_of_methodNamed Bd.named
  have hnm := (name_of_methodNamed Bd.named Bd.method).1
  have X0 : Stand p l e ({ frames := 3, cells := 0, slots := 0, locals := 46 } : Room) s m #[(.ref a1), (.int p2), (.ref a3), (.long q4)] below meth c s₁ [] 0 0 := Stand.of_body Bd
  have e0 : s₁.heap = h0 := by rw [← hh, Bd.state]; rfl
  have N0 := Fr.nil n0
  obtain ⟨E_a1, F_keys_a1, F_words_a1, F_size_a1, ⟨cl_w17, Ar_w17, s17, H17⟩, ⟨cl_w14, Ar_w14, s14, H14⟩, hkw⟩ := HS
  have hlt := own_nat hir
  have hin14 := own_in hir s14
  have hin17 := own_in hir s17
  have hat14 := H14 _ hlt
  have hne17 : a1 ≠ w17 := ne_arr E_a1 (hw _ (List.mem_of_getElem? (i := 11) rfl)) Ar_w17
  have hne14 : a1 ≠ w14 := ne_arr E_a1 (hw _ (List.mem_of_getElem? (i := 11) rfl)) Ar_w14
  have pre0 : ∀ t, Steps p.tables e below (s₁.setTop (mkF m 0 #[.val (.ref a1), .val (.int p2), .val (.ref a3), .val (.long q4), .second, .unset, .unset, .unset, .unset, .unset, .unset, .unset, .unset] [])) t → Steps p.tables e below (s₁.setTop (entryFrame m #[(.ref a1), (.int p2), (.ref a3), (.long q4)] 13)) t := fun t k => castTop (ef_4 m a1 p2 a3 q4) k
  obtain ⟨T6, X6, e6, st6⟩ := getS2 X0 hx hZ hown (host := "") (Or.inl (hw _ (List.mem_of_getElem? (i := 29) rfl))) Via.refl e0 S_KINDS (g := (mkF m 1 #[.val (.ref a1), .val (.int p2), .val (.ref a3), .val (.long q4), .second, .unset, .unset, .unset, .unset, .unset, .unset, .unset, .unset] [(.int p2)])) rfl (hb hby d4_1)
  obtain ⟨_, _, ⟨T7, L7, k7, n7⟩, -, X7, ⟨Lc7, hQ7, l7, y7, z7⟩, st7⟩ := Jvm.LawKit.callS X6 hx (y := (⟨"java/lang/Math", "multiplyExact", "(II)I"⟩ : MethodName)) hown (mvT hZ (hw _ (List.mem_of_getElem? (i := 31) rfl))) (mvT hZ (hw _ (List.mem_of_getElem? (i := 32) rfl))) (mvT hZ (hw _ (List.mem_of_getElem? (i := 33) rfl))) (mvT hZ (hw _ (List.mem_of_getElem? (i := 34) rfl))) (by decide) (backOf (W := 0) Hm7 hZ (hw _ (List.mem_of_getElem? (i := 34) rfl)) (hw _ (List.mem_of_getElem? (i := 33) rfl)) (by decide) (by decide)) (g := (mkF m 4 #[.val (.ref a1), .val (.int p2), .val (.ref a3), .val (.long q4), .second, .unset, .unset, .unset, .unset, .unset, .unset, .unset, .unset] [(.int w5), (.int p2)])) rfl (by rw [hml]; rfl) (argsL := [(.int p2), (.int w5)]) (rest := []) (lenOf pd_4_3 rfl) rfl (by show 2 * 0 + _ ≤ _; exact Nat.le_of_eq rfl) (hb hby d4_4) (fun _ _ => ⟨rfl, e6, (by decide : 0 + 0 ≤ _), (by decide : 0 + 0 ≤ _)⟩)
  dsimp only [Pt.U, Pt.locs, Pt.cells, Pt.slots] at X7 l7 y7 z7 st7 hQ7
  subst l7 y7 z7
  obtain ⟨rfl, N7q, hh7⟩ := hQ7
  have N7 := Fr.app N0 N7q
  obtain ⟨cq8, kq8, q8a, q8b, q8c⟩ := isOf hZ hh7 E_a3
  obtain ⟨_, _, ⟨T8, L8, k8, n8⟩, -, X8, ⟨Lc8, hQ8, l8, y8, z8⟩, st8⟩ := X7.virtualBackUp hx (x := (⟨"com/example/crackline/crackline/PriceKind", "ordinal", "()I"⟩ : MethodName)) (y := (⟨"java/lang/Enum", "ordinal", "()I"⟩ : MethodName)) (owner := "java/lang/Enum") hown (mvT hZ (hw _ (List.mem_of_getElem? (i := 35) rfl))) (mvT hZ (hw _ (List.mem_of_getElem? (i := 36) rfl))) (mvT hZ (hw _ (List.mem_of_getElem? (i := 37) rfl))) (by decide) (mvT hZ (hw _ (List.mem_of_getElem? (i := 39) rfl))) (mvT hZ (hw _ (List.mem_of_getElem? (i := 38) rfl))) (backOf (W := 1) Hm8 hZ (hw _ (List.mem_of_getElem? (i := 41) rfl)) (hw _ (List.mem_of_getElem? (i := 40) rfl)) (by decide) (by decide)) q8a q8c (g := (mkF m 8 #[.val (.ref a1), .val (.int p2), .val (.ref a3), .val (.long q4), .second, .unset, .unset, .unset, .unset, .unset, .unset, .unset, .unset] [(.ref a3), (.int r7)])) rfl (by rw [hml]; rfl) (Steps.refl _) (argsL := []) (rest := [(.int r7)]) (lenOf pd_4_4 rfl) rfl (by show 2 * 0 + _ ≤ _; exact Nat.le_of_eq rfl) (hb hby d4_8) (fun _ _ => ⟨rfl, hh7, (by decide : 0 + 0 ≤ _), (by decide : 0 + 0 ≤ _)⟩)
  dsimp only [Pt.U, Pt.locs, Pt.cells, Pt.slots] at X8 l8 y8 z8 st8 hQ8
  subst l8 y8 z8
  obtain ⟨rfl, N8q, hh8⟩ := hQ8
  have N8 := Fr.app N7 N8q
  obtain ⟨_, _, ⟨T9, L9, k9, n9⟩, -, X9, ⟨Lc9, hQ9, l9, y9, z9⟩, st9⟩ := Jvm.LawKit.callS X8 hx (y := (⟨"java/lang/Math", "addExact", "(II)I"⟩ : MethodName)) hown (mvT hZ (hw _ (List.mem_of_getElem? (i := 44) rfl))) (mvT hZ (hw _ (List.mem_of_getElem? (i := 45) rfl))) (mvT hZ (hw _ (List.mem_of_getElem? (i := 33) rfl))) (mvT hZ (hw _ (List.mem_of_getElem? (i := 46) rfl))) (by decide) (backOf (W := 0) Hm9 hZ (hw _ (List.mem_of_getElem? (i := 46) rfl)) (hw _ (List.mem_of_getElem? (i := 33) rfl)) (by decide) (by decide)) (g := (mkF m 11 #[.val (.ref a1), .val (.int p2), .val (.ref a3), .val (.long q4), .second, .unset, .unset, .unset, .unset, .unset, .unset, .unset, .unset] [(.int r8), (.int r7)])) rfl (by rw [hml]; rfl) (argsL := [(.int r7), (.int r8)]) (rest := []) (lenOf pd_4_3 rfl) rfl (by show 2 * 0 + _ ≤ _; exact Nat.le_of_eq rfl) (hb hby d4_11) (fun _ _ => ⟨rfl, hh8, (by decide : 0 + 0 ≤ _), (by decide : 0 + 0 ≤ _)⟩)
  dsimp only [Pt.U, Pt.locs, Pt.cells, Pt.slots] at X9 l9 y9 z9 st9 hQ9
  subst l9 y9 z9
  obtain ⟨rfl, N9q, hh9⟩ := hQ9
  have N9 := Fr.app N8 N9q
  obtain ⟨_, _, ⟨T10, L10, k10, n10⟩, -, X10, ⟨Lc10, hQ10, l10, y10, z10⟩, st10⟩ := Jvm.LawKit.callS X9 hx (y := (⟨"java/lang/Math", "floorDiv", "(JI)J"⟩ : MethodName)) hown (mvT hZ (hw _ (List.mem_of_getElem? (i := 47) rfl))) (mvT hZ (hw _ (List.mem_of_getElem? (i := 48) rfl))) (mvT hZ (hw _ (List.mem_of_getElem? (i := 33) rfl))) (mvT hZ (hw _ (List.mem_of_getElem? (i := 49) rfl))) (by decide) (backOf (W := 2) Hm10 hZ (hw _ (List.mem_of_getElem? (i := 49) rfl)) (hw _ (List.mem_of_getElem? (i := 33) rfl)) (by decide) (by decide)) (g := (mkF m 25 #[.val (.ref a1), .val (.int p2), .val (.ref a3), .val (.long q4), .second, .val (.long (r9.toInt64)), .second, .unset, .unset, .unset, .unset, .unset, .unset] [(.int (64 : Int32)), (.long q4), (.long ((r9.toInt64) <<< ((32 : Int32) &&& 0x3f).toInt64))])) rfl (by rw [hml]; rfl) (argsL := [(.long q4), (.int (64 : Int32))]) (rest := [(.long ((r9.toInt64) <<< ((32 : Int32) &&& 0x3f).toInt64))]) (lenOf pd_4_5 rfl) rfl (by show 2 * 0 + _ ≤ _; exact Nat.le_of_eq rfl) (hb hby d4_25) (fun _ _ => ⟨rfl, hh9, (by decide : 0 + 0 ≤ _), (by decide : 0 + 0 ≤ _)⟩)
  dsimp only [Pt.U, Pt.locs, Pt.cells, Pt.slots] at X10 l10 y10 z10 st10 hQ10
  subst l10 y10 z10
  obtain ⟨rfl, N10q, hh10⟩ := hQ10
  have N10 := Fr.app N9 N10q
  obtain ⟨_, _, ⟨T11, L11, k11, n11⟩, -, X11, ⟨Lc11, hQ11, l11, y11, z11⟩, st11⟩ := Jvm.LawKit.callS X10 hx (y := (⟨"java/lang/Math", "toIntExact", "(J)I"⟩ : MethodName)) hown (mvT hZ (hw _ (List.mem_of_getElem? (i := 53) rfl))) (mvT hZ (hw _ (List.mem_of_getElem? (i := 54) rfl))) (mvT hZ (hw _ (List.mem_of_getElem? (i := 33) rfl))) (mvT hZ (hw _ (List.mem_of_getElem? (i := 55) rfl))) (by decide) (backOf (W := 2) Hm11 hZ (hw _ (List.mem_of_getElem? (i := 55) rfl)) (hw _ (List.mem_of_getElem? (i := 33) rfl)) (by decide) (by decide)) (g := (mkF m 28 #[.val (.ref a1), .val (.int p2), .val (.ref a3), .val (.long q4), .second, .val (.long (r9.toInt64)), .second, .unset, .unset, .unset, .unset, .unset, .unset] [(.long r10), (.long ((r9.toInt64) <<< ((32 : Int32) &&& 0x3f).toInt64))])) rfl (by rw [hml]; rfl) (argsL := [(.long r10)]) (rest := [(.long ((r9.toInt64) <<< ((32 : Int32) &&& 0x3f).toInt64))]) (lenOf pd_4_7 rfl) rfl (by show 2 * 0 + _ ≤ _; exact Nat.le_of_eq rfl) (hb hby d4_28) (fun _ _ => ⟨rfl, hh10, (by decide : 0 + 0 ≤ _), (by decide : 0 + 0 ≤ _)⟩)
  dsimp only [Pt.U, Pt.locs, Pt.cells, Pt.slots] at X11 l11 y11 z11 st11 hQ11
  subst l11 y11 z11
  obtain ⟨rfl, N11q, hh11⟩ := hQ11
  have N11 := Fr.app N10 N11q
  obtain ⟨_, _, ⟨T12, L12, k12, n12⟩, -, X12, ⟨Lc12, hQ12, l12, y12, z12⟩, st12⟩ := Jvm.LawKit.callS X11 hx (y := (⟨"java/lang/Math", "floorMod", "(JI)I"⟩ : MethodName)) hown (mvT hZ (hw _ (List.mem_of_getElem? (i := 57) rfl))) (mvT hZ (hw _ (List.mem_of_getElem? (i := 58) rfl))) (mvT hZ (hw _ (List.mem_of_getElem? (i := 33) rfl))) (mvT hZ (hw _ (List.mem_of_getElem? (i := 59) rfl))) (by decide) (backOf (W := 2) Hm12 hZ (hw _ (List.mem_of_getElem? (i := 59) rfl)) (hw _ (List.mem_of_getElem? (i := 33) rfl)) (by decide) (by decide)) (g := (mkF m 43 #[.val (.ref a1), .val (.int p2), .val (.ref a3), .val (.long q4), .second, .val (.long (r9.toInt64)), .second, .val (.long (((r9.toInt64) <<< ((32 : Int32) &&& 0x3f).toInt64) ||| ((r11.toInt64) &&& (4294967295 : Int64)))), .second, .unset, .unset, .unset, .unset] [(.int (64 : Int32)), (.long q4), (.long (1 : Int64))])) rfl (by rw [hml]; rfl) (argsL := [(.long q4), (.int (64 : Int32))]) (rest := [(.long (1 : Int64))]) (lenOf pd_4_8 rfl) rfl (by show 2 * 0 + _ ≤ _; exact Nat.le_of_eq rfl) (hb hby d4_43) (fun _ _ => ⟨rfl, hh11, (by decide : 0 + 0 ≤ _), (by decide : 0 + 0 ≤ _)⟩)
  dsimp only [Pt.U, Pt.locs, Pt.cells, Pt.slots] at X12 l12 y12 z12 st12 hQ12
  subst l12 y12 z12
  obtain ⟨rfl, N12q, hh12⟩ := hQ12
  have N12 := Fr.app N11 N12q
  obtain ⟨cq13, q13, q13'⟩ := E_a1.cell
  obtain ⟨_, _, ⟨T13, L13, k13, n13⟩, -, X13, ⟨Lc13, hQ13, l13, y13, z13⟩, st13⟩ := X12.privateBack hx (y := (⟨"com/example/crackline/crackline/SeenValues", "slot", "(J)I"⟩ : MethodName)) hown (mvT hZ (hw _ (List.mem_of_getElem? (i := 63) rfl))) (mvT hZ (hw _ (List.mem_of_getElem? (i := 64) rfl))) (own_selSlot (mvT hZ (hw _ (List.mem_of_getElem? (i := 27) rfl))) (mvP hZ (hw _ (List.mem_of_getElem? (i := 65) rfl))) (mvT hZ (hw _ (List.mem_of_getElem? (i := 64) rfl)))) (Cond.privateMethod_at (mvP hZ (hw _ (List.mem_of_getElem? (i := 65) rfl)) (args := #[]))) (mvT hZ (hw _ (List.mem_of_getElem? (i := 66) rfl))) (by decide) (backOf (W := 0) Hm13 hZ (hw _ (List.mem_of_getElem? (i := 66) rfl)) (hw _ (List.mem_of_getElem? (i := 12) rfl)) (by decide) (by decide)) (g := (mkF m 52 #[.val (.ref a1), .val (.int p2), .val (.ref a3), .val (.long q4), .second, .val (.long (r9.toInt64)), .second, .val (.long (((r9.toInt64) <<< ((32 : Int32) &&& 0x3f).toInt64) ||| ((r11.toInt64) &&& (4294967295 : Int64)))), .second, .val (.long ((1 : Int64) <<< (r12 &&& 0x3f).toInt64)), .second, .unset, .unset] [(.long (((r9.toInt64) <<< ((32 : Int32) &&& 0x3f).toInt64) ||| ((r11.toInt64) &&& (4294967295 : Int64)))), (.ref a1)])) rfl (by rw [hml]; rfl) (Steps.refl _) (a := a1) (by rw [hh12]; exact q13) q13' (argsL := [(.long (((r9.toInt64) <<< ((32 : Int32) &&& 0x3f).toInt64) ||| ((r11.toInt64) &&& (4294967295 : Int64))))]) (rest := []) (lenOf pd_4_7 rfl) rfl (by show 2 * 0 + _ ≤ _; exact Nat.le_of_eq rfl) (hb hby d4_52) (fun _ _ => ⟨rfl, hh12, (by decide : 0 + 0 ≤ _), (by decide : 0 + 0 ≤ _)⟩)
  dsimp only [Pt.U, Pt.locs, Pt.cells, Pt.slots] at X13 l13 y13 z13 st13 hQ13
  subst l13 y13 z13
  obtain ⟨rfl, N13q, hh13⟩ := hQ13
  have N13 := Fr.app N12 N13q
  obtain ⟨T15, X15, e15, st15⟩ := getF X13 hx hZ hown (host := "") (Or.inl (hw _ (List.mem_of_getElem? (i := 22) rfl))) Via.refl hh13 F_words_a1 (g := (mkF m 58 #[.val (.ref a1), .val (.int p2), .val (.ref a3), .val (.long q4), .second, .val (.long (r9.toInt64)), .second, .val (.long (((r9.toInt64) <<< ((32 : Int32) &&& 0x3f).toInt64) ||| ((r11.toInt64) &&& (4294967295 : Int64)))), .second, .val (.long ((1 : Int64) <<< (r12 &&& 0x3f).toInt64)), .second, .val (.int r13), .unset] [(.ref a1)])) rfl rfl (hb hby d4_58)
  obtain ⟨T17, X17, e17, st17⟩ := getF X15 hx hZ hown (host := "") (Or.inl (hw _ (List.mem_of_getElem? (i := 22) rfl))) Via.refl e15 F_words_a1 (g := (mkF m 118 #[.val (.ref a1), .val (.int p2), .val (.ref a3), .val (.long q4), .second, .val (.long (r9.toInt64)), .second, .val (.long (((r9.toInt64) <<< ((32 : Int32) &&& 0x3f).toInt64) ||| ((r11.toInt64) &&& (4294967295 : Int64)))), .second, .val (.long ((1 : Int64) <<< (r12 &&& 0x3f).toInt64)), .second, .val (.int r13), .unset] [(.ref a1)])) rfl rfl (hb hby d4_118)
  obtain ⟨T19, X19, e19, st19⟩ := getF X17 hx hZ hown (host := "") (Or.inl (hw _ (List.mem_of_getElem? (i := 22) rfl))) Via.refl e17 F_words_a1 (g := (mkF m 140 #[.val (.ref a1), .val (.int p2), .val (.ref a3), .val (.long q4), .second, .val (.long (r9.toInt64)), .second, .val (.long (((r9.toInt64) <<< ((32 : Int32) &&& 0x3f).toInt64) ||| ((r11.toInt64) &&& (4294967295 : Int64)))), .second, .val (.long ((1 : Int64) <<< (r12 &&& 0x3f).toInt64)), .second, .val (.int r13), .val (.int (0 : Int32))] [(.ref a1)])) rfl rfl (hb hby d4_140)
  obtain ⟨T21, h21, X21, e21, W21, st21⟩ := stJ X19 hx hZ e19 Ar_w14 (j := r13) hin14 (g := (mkF m 150 #[.val (.ref a1), .val (.int p2), .val (.ref a3), .val (.long q4), .second, .val (.long (r9.toInt64)), .second, .val (.long (((r9.toInt64) <<< ((32 : Int32) &&& 0x3f).toInt64) ||| ((r11.toInt64) &&& (4294967295 : Int64)))), .second, .val (.long ((1 : Int64) <<< (r12 &&& 0x3f).toInt64)), .second, .val (.int r13), .val (.int (0 : Int32))] [(.long ((g r13.toNatClampNeg) ||| ((1 : Int64) <<< (r12 &&& 0x3f).toInt64))), (.int r13), (.ref w14)])) rfl rfl (hb hby d4_150)
  have N21 := Fr.snoc X21 N13 g_w14
  have K21 : Keep h0 h21 [w14] := (Keep.refl h0 [w14]).wr W21 (Or.inl (List.mem_of_getElem? (i := 0) rfl))
  obtain ⟨fs, hr, hrun, hended, hW, hsame⟩ := X21.leave (v := some (.int (0 : Int32))) (fun h => by rw [Bd.returns] at h; cases h)
  refine ⟨_, _, pre0 _ ?_, hrun, hended, _, _, rfl, ?_, ⟨_, rfl⟩, hW, hsame.mono (by decide) (by decide)⟩
  · show Steps p.tables e below (s₁.setTop (mkF m 0 #[.val (.ref a1), .val (.int p2), .val (.ref a3), .val (.long q4), .second, .unset, .unset, .unset, .unset, .unset, .unset, .unset, .unset] [])) _
    refine XS.iloadN X0.here hx rfl (hb hby d4_0) rfl ?_
    show Steps p.tables e below (s₁.setTop (mkF m 1 #[.val (.ref a1), .val (.int p2), .val (.ref a3), .val (.long q4), .second, .unset, .unset, .unset, .unset, .unset, .unset, .unset, .unset] [(.int p2)])) _
    refine st6 _ ?_
    show Steps p.tables e below (T6.setTop (mkF m 4 #[.val (.ref a1), .val (.int p2), .val (.ref a3), .val (.long q4), .second, .unset, .unset, .unset, .unset, .unset, .unset, .unset, .unset] [(.int w5), (.int p2)])) _
    refine st7 _ ?_
    show Steps p.tables e below (T7.setTop (mkF m 7 #[.val (.ref a1), .val (.int p2), .val (.ref a3), .val (.long q4), .second, .unset, .unset, .unset, .unset, .unset, .unset, .unset, .unset] [(.int r7)])) _
    refine XS.aloadN X7.here hx rfl (hb hby d4_7) rfl rfl ?_
    show Steps p.tables e below (T7.setTop (mkF m 8 #[.val (.ref a1), .val (.int p2), .val (.ref a3), .val (.long q4), .second, .unset, .unset, .unset, .unset, .unset, .unset, .unset, .unset] [(.ref a3), (.int r7)])) _
    refine st8.trans ?_
    show Steps p.tables e below (T8.setTop (mkF m 11 #[.val (.ref a1), .val (.int p2), .val (.ref a3), .val (.long q4), .second, .unset, .unset, .unset, .unset, .unset, .unset, .unset, .unset] [(.int r8), (.int r7)])) _
    refine st9 _ ?_
    show Steps p.tables e below (T9.setTop (mkF m 14 #[.val (.ref a1), .val (.int p2), .val (.ref a3), .val (.long q4), .second, .unset, .unset, .unset, .unset, .unset, .unset, .unset, .unset] [(.int r9)])) _
    refine XS.i2l X9.here hx rfl (hb hby d4_14) rfl ?_
    show Steps p.tables e below (T9.setTop (mkF m 15 #[.val (.ref a1), .val (.int p2), .val (.ref a3), .val (.long q4), .second, .unset, .unset, .unset, .unset, .unset, .unset, .unset, .unset] [(.long (r9.toInt64))])) _
    refine XS.lstore X9.here hx rfl (hb hby d4_15) rfl (l' := #[.val (.ref a1), .val (.int p2), .val (.ref a3), .val (.long q4), .second, .val (.long (r9.toInt64)), .second, .unset, .unset, .unset, .unset, .unset, .unset]) rfl ?_
    show Steps p.tables e below (T9.setTop (mkF m 17 #[.val (.ref a1), .val (.int p2), .val (.ref a3), .val (.long q4), .second, .val (.long (r9.toInt64)), .second, .unset, .unset, .unset, .unset, .unset, .unset] [])) _
    refine XS.lload X9.here hx rfl (hb hby d4_17) rfl ?_
    show Steps p.tables e below (T9.setTop (mkF m 19 #[.val (.ref a1), .val (.int p2), .val (.ref a3), .val (.long q4), .second, .val (.long (r9.toInt64)), .second, .unset, .unset, .unset, .unset, .unset, .unset] [(.long (r9.toInt64))])) _
    refine XS.bipush X9.here hx rfl (hb hby d4_19) ?_
    show Steps p.tables e below (T9.setTop (mkF m 21 #[.val (.ref a1), .val (.int p2), .val (.ref a3), .val (.long q4), .second, .val (.long (r9.toInt64)), .second, .unset, .unset, .unset, .unset, .unset, .unset] [(.int (32 : Int32)), (.long (r9.toInt64))])) _
    refine XS.lshl X9.here hx rfl (hb hby d4_21) rfl ?_
    show Steps p.tables e below (T9.setTop (mkF m 22 #[.val (.ref a1), .val (.int p2), .val (.ref a3), .val (.long q4), .second, .val (.long (r9.toInt64)), .second, .unset, .unset, .unset, .unset, .unset, .unset] [(.long ((r9.toInt64) <<< ((32 : Int32) &&& 0x3f).toInt64))])) _
    refine XS.lloadN X9.here hx rfl (hb hby d4_22) rfl ?_
    show Steps p.tables e below (T9.setTop (mkF m 23 #[.val (.ref a1), .val (.int p2), .val (.ref a3), .val (.long q4), .second, .val (.long (r9.toInt64)), .second, .unset, .unset, .unset, .unset, .unset, .unset] [(.long q4), (.long ((r9.toInt64) <<< ((32 : Int32) &&& 0x3f).toInt64))])) _
    refine XS.bipush X9.here hx rfl (hb hby d4_23) ?_
    show Steps p.tables e below (T9.setTop (mkF m 25 #[.val (.ref a1), .val (.int p2), .val (.ref a3), .val (.long q4), .second, .val (.long (r9.toInt64)), .second, .unset, .unset, .unset, .unset, .unset, .unset] [(.int (64 : Int32)), (.long q4), (.long ((r9.toInt64) <<< ((32 : Int32) &&& 0x3f).toInt64))])) _
    refine st10 _ ?_
    show Steps p.tables e below (T10.setTop (mkF m 28 #[.val (.ref a1), .val (.int p2), .val (.ref a3), .val (.long q4), .second, .val (.long (r9.toInt64)), .second, .unset, .unset, .unset, .unset, .unset, .unset] [(.long r10), (.long ((r9.toInt64) <<< ((32 : Int32) &&& 0x3f).toInt64))])) _
    refine st11 _ ?_
    show Steps p.tables e below (T11.setTop (mkF m 31 #[.val (.ref a1), .val (.int p2), .val (.ref a3), .val (.long q4), .second, .val (.long (r9.toInt64)), .second, .unset, .unset, .unset, .unset, .unset, .unset] [(.int r11), (.long ((r9.toInt64) <<< ((32 : Int32) &&& 0x3f).toInt64))])) _
    refine XS.i2l X11.here hx rfl (hb hby d4_31) rfl ?_
    show Steps p.tables e below (T11.setTop (mkF m 32 #[.val (.ref a1), .val (.int p2), .val (.ref a3), .val (.long q4), .second, .val (.long (r9.toInt64)), .second, .unset, .unset, .unset, .unset, .unset, .unset] [(.long (r11.toInt64)), (.long ((r9.toInt64) <<< ((32 : Int32) &&& 0x3f).toInt64))])) _
    refine X11.ldc2Long hx hown (mvT hZ (hw _ (List.mem_of_getElem? (i := 56) rfl))) (g := (mkF m 32 #[.val (.ref a1), .val (.int p2), .val (.ref a3), .val (.long q4), .second, .val (.long (r9.toInt64)), .second, .unset, .unset, .unset, .unset, .unset, .unset] [(.long (r11.toInt64)), (.long ((r9.toInt64) <<< ((32 : Int32) &&& 0x3f).toInt64))])) rfl (hb hby d4_32) _ ?_
    show Steps p.tables e below (T11.setTop (mkF m 35 #[.val (.ref a1), .val (.int p2), .val (.ref a3), .val (.long q4), .second, .val (.long (r9.toInt64)), .second, .unset, .unset, .unset, .unset, .unset, .unset] [(.long (4294967295 : Int64)), (.long (r11.toInt64)), (.long ((r9.toInt64) <<< ((32 : Int32) &&& 0x3f).toInt64))])) _
    refine XS.land X11.here hx rfl (hb hby d4_35) rfl ?_
    show Steps p.tables e below (T11.setTop (mkF m 36 #[.val (.ref a1), .val (.int p2), .val (.ref a3), .val (.long q4), .second, .val (.long (r9.toInt64)), .second, .unset, .unset, .unset, .unset, .unset, .unset] [(.long ((r11.toInt64) &&& (4294967295 : Int64))), (.long ((r9.toInt64) <<< ((32 : Int32) &&& 0x3f).toInt64))])) _
    refine XS.lor X11.here hx rfl (hb hby d4_36) rfl ?_
    show Steps p.tables e below (T11.setTop (mkF m 37 #[.val (.ref a1), .val (.int p2), .val (.ref a3), .val (.long q4), .second, .val (.long (r9.toInt64)), .second, .unset, .unset, .unset, .unset, .unset, .unset] [(.long (((r9.toInt64) <<< ((32 : Int32) &&& 0x3f).toInt64) ||| ((r11.toInt64) &&& (4294967295 : Int64))))])) _
    refine XS.lstore X11.here hx rfl (hb hby d4_37) rfl (l' := #[.val (.ref a1), .val (.int p2), .val (.ref a3), .val (.long q4), .second, .val (.long (r9.toInt64)), .second, .val (.long (((r9.toInt64) <<< ((32 : Int32) &&& 0x3f).toInt64) ||| ((r11.toInt64) &&& (4294967295 : Int64)))), .second, .unset, .unset, .unset, .unset]) rfl ?_
    show Steps p.tables e below (T11.setTop (mkF m 39 #[.val (.ref a1), .val (.int p2), .val (.ref a3), .val (.long q4), .second, .val (.long (r9.toInt64)), .second, .val (.long (((r9.toInt64) <<< ((32 : Int32) &&& 0x3f).toInt64) ||| ((r11.toInt64) &&& (4294967295 : Int64)))), .second, .unset, .unset, .unset, .unset] [])) _
    refine XS.lconst X11.here hx rfl (hb hby d4_39) ?_
    show Steps p.tables e below (T11.setTop (mkF m 40 #[.val (.ref a1), .val (.int p2), .val (.ref a3), .val (.long q4), .second, .val (.long (r9.toInt64)), .second, .val (.long (((r9.toInt64) <<< ((32 : Int32) &&& 0x3f).toInt64) ||| ((r11.toInt64) &&& (4294967295 : Int64)))), .second, .unset, .unset, .unset, .unset] [(.long (1 : Int64))])) _
    refine XS.lloadN X11.here hx rfl (hb hby d4_40) rfl ?_
    show Steps p.tables e below (T11.setTop (mkF m 41 #[.val (.ref a1), .val (.int p2), .val (.ref a3), .val (.long q4), .second, .val (.long (r9.toInt64)), .second, .val (.long (((r9.toInt64) <<< ((32 : Int32) &&& 0x3f).toInt64) ||| ((r11.toInt64) &&& (4294967295 : Int64)))), .second, .unset, .unset, .unset, .unset] [(.long q4), (.long (1 : Int64))])) _
    refine XS.bipush X11.here hx rfl (hb hby d4_41) ?_
    show Steps p.tables e below (T11.setTop (mkF m 43 #[.val (.ref a1), .val (.int p2), .val (.ref a3), .val (.long q4), .second, .val (.long (r9.toInt64)), .second, .val (.long (((r9.toInt64) <<< ((32 : Int32) &&& 0x3f).toInt64) ||| ((r11.toInt64) &&& (4294967295 : Int64)))), .second, .unset, .unset, .unset, .unset] [(.int (64 : Int32)), (.long q4), (.long (1 : Int64))])) _
    refine st12 _ ?_
    show Steps p.tables e below (T12.setTop (mkF m 46 #[.val (.ref a1), .val (.int p2), .val (.ref a3), .val (.long q4), .second, .val (.long (r9.toInt64)), .second, .val (.long (((r9.toInt64) <<< ((32 : Int32) &&& 0x3f).toInt64) ||| ((r11.toInt64) &&& (4294967295 : Int64)))), .second, .unset, .unset, .unset, .unset] [(.int r12), (.long (1 : Int64))])) _
    refine XS.lshl X12.here hx rfl (hb hby d4_46) rfl ?_
    show Steps p.tables e below (T12.setTop (mkF m 47 #[.val (.ref a1), .val (.int p2), .val (.ref a3), .val (.long q4), .second, .val (.long (r9.toInt64)), .second, .val (.long (((r9.toInt64) <<< ((32 : Int32) &&& 0x3f).toInt64) ||| ((r11.toInt64) &&& (4294967295 : Int64)))), .second, .unset, .unset, .unset, .unset] [(.long ((1 : Int64) <<< (r12 &&& 0x3f).toInt64))])) _
    refine XS.lstore X12.here hx rfl (hb hby d4_47) rfl (l' := #[.val (.ref a1), .val (.int p2), .val (.ref a3), .val (.long q4), .second, .val (.long (r9.toInt64)), .second, .val (.long (((r9.toInt64) <<< ((32 : Int32) &&& 0x3f).toInt64) ||| ((r11.toInt64) &&& (4294967295 : Int64)))), .second, .val (.long ((1 : Int64) <<< (r12 &&& 0x3f).toInt64)), .second, .unset, .unset]) rfl ?_
    show Steps p.tables e below (T12.setTop (mkF m 49 #[.val (.ref a1), .val (.int p2), .val (.ref a3), .val (.long q4), .second, .val (.long (r9.toInt64)), .second, .val (.long (((r9.toInt64) <<< ((32 : Int32) &&& 0x3f).toInt64) ||| ((r11.toInt64) &&& (4294967295 : Int64)))), .second, .val (.long ((1 : Int64) <<< (r12 &&& 0x3f).toInt64)), .second, .unset, .unset] [])) _
    refine XS.aloadN X12.here hx rfl (hb hby d4_49) rfl rfl ?_
    show Steps p.tables e below (T12.setTop (mkF m 50 #[.val (.ref a1), .val (.int p2), .val (.ref a3), .val (.long q4), .second, .val (.long (r9.toInt64)), .second, .val (.long (((r9.toInt64) <<< ((32 : Int32) &&& 0x3f).toInt64) ||| ((r11.toInt64) &&& (4294967295 : Int64)))), .second, .val (.long ((1 : Int64) <<< (r12 &&& 0x3f).toInt64)), .second, .unset, .unset] [(.ref a1)])) _
    refine XS.lload X12.here hx rfl (hb hby d4_50) rfl ?_
    show Steps p.tables e below (T12.setTop (mkF m 52 #[.val (.ref a1), .val (.int p2), .val (.ref a3), .val (.long q4), .second, .val (.long (r9.toInt64)), .second, .val (.long (((r9.toInt64) <<< ((32 : Int32) &&& 0x3f).toInt64) ||| ((r11.toInt64) &&& (4294967295 : Int64)))), .second, .val (.long ((1 : Int64) <<< (r12 &&& 0x3f).toInt64)), .second, .unset, .unset] [(.long (((r9.toInt64) <<< ((32 : Int32) &&& 0x3f).toInt64) ||| ((r11.toInt64) &&& (4294967295 : Int64)))), (.ref a1)])) _
    refine st13.trans ?_
    show Steps p.tables e below (T13.setTop (mkF m 55 #[.val (.ref a1), .val (.int p2), .val (.ref a3), .val (.long q4), .second, .val (.long (r9.toInt64)), .second, .val (.long (((r9.toInt64) <<< ((32 : Int32) &&& 0x3f).toInt64) ||| ((r11.toInt64) &&& (4294967295 : Int64)))), .second, .val (.long ((1 : Int64) <<< (r12 &&& 0x3f).toInt64)), .second, .unset, .unset] [(.int r13)])) _
    refine XS.istore X13.here hx rfl (hb hby d4_55) rfl (l' := #[.val (.ref a1), .val (.int p2), .val (.ref a3), .val (.long q4), .second, .val (.long (r9.toInt64)), .second, .val (.long (((r9.toInt64) <<< ((32 : Int32) &&& 0x3f).toInt64) ||| ((r11.toInt64) &&& (4294967295 : Int64)))), .second, .val (.long ((1 : Int64) <<< (r12 &&& 0x3f).toInt64)), .second, .val (.int r13), .unset]) rfl ?_
    show Steps p.tables e below (T13.setTop (mkF m 57 #[.val (.ref a1), .val (.int p2), .val (.ref a3), .val (.long q4), .second, .val (.long (r9.toInt64)), .second, .val (.long (((r9.toInt64) <<< ((32 : Int32) &&& 0x3f).toInt64) ||| ((r11.toInt64) &&& (4294967295 : Int64)))), .second, .val (.long ((1 : Int64) <<< (r12 &&& 0x3f).toInt64)), .second, .val (.int r13), .unset] [])) _
    refine XS.aloadN X13.here hx rfl (hb hby d4_57) rfl rfl ?_
    show Steps p.tables e below (T13.setTop (mkF m 58 #[.val (.ref a1), .val (.int p2), .val (.ref a3), .val (.long q4), .second, .val (.long (r9.toInt64)), .second, .val (.long (((r9.toInt64) <<< ((32 : Int32) &&& 0x3f).toInt64) ||| ((r11.toInt64) &&& (4294967295 : Int64)))), .second, .val (.long ((1 : Int64) <<< (r12 &&& 0x3f).toInt64)), .second, .val (.int r13), .unset] [(.ref a1)])) _
    refine st15 _ ?_
    show Steps p.tables e below (T15.setTop (mkF m 61 #[.val (.ref a1), .val (.int p2), .val (.ref a3), .val (.long q4), .second, .val (.long (r9.toInt64)), .second, .val (.long (((r9.toInt64) <<< ((32 : Int32) &&& 0x3f).toInt64) ||| ((r11.toInt64) &&& (4294967295 : Int64)))), .second, .val (.long ((1 : Int64) <<< (r12 &&& 0x3f).toInt64)), .second, .val (.int r13), .unset] [(.ref w14)])) _
    refine XS.iload X15.here hx rfl (hb hby d4_61) rfl ?_
    show Steps p.tables e below (T15.setTop (mkF m 63 #[.val (.ref a1), .val (.int p2), .val (.ref a3), .val (.long q4), .second, .val (.long (r9.toInt64)), .second, .val (.long (((r9.toInt64) <<< ((32 : Int32) &&& 0x3f).toInt64) ||| ((r11.toInt64) &&& (4294967295 : Int64)))), .second, .val (.long ((1 : Int64) <<< (r12 &&& 0x3f).toInt64)), .second, .val (.int r13), .unset] [(.int r13), (.ref w14)])) _
    refine X15.laload hx (j := r13) (v := (.long (g r13.toNatClampNeg))) (by rw [e15]; exact Ar_w14.1) (State.isArrayOf_alike hZ.alike Ar_w14.2.1) Ar_w14.2.2 hin14 hat14 (g := (mkF m 63 #[.val (.ref a1), .val (.int p2), .val (.ref a3), .val (.long q4), .second, .val (.long (r9.toInt64)), .second, .val (.long (((r9.toInt64) <<< ((32 : Int32) &&& 0x3f).toInt64) ||| ((r11.toInt64) &&& (4294967295 : Int64)))), .second, .val (.long ((1 : Int64) <<< (r12 &&& 0x3f).toInt64)), .second, .val (.int r13), .unset] [(.int r13), (.ref w14)])) rfl rfl (hb hby d4_63) _ ?_
    show Steps p.tables e below (T15.setTop (mkF m 64 #[.val (.ref a1), .val (.int p2), .val (.ref a3), .val (.long q4), .second, .val (.long (r9.toInt64)), .second, .val (.long (((r9.toInt64) <<< ((32 : Int32) &&& 0x3f).toInt64) ||| ((r11.toInt64) &&& (4294967295 : Int64)))), .second, .val (.long ((1 : Int64) <<< (r12 &&& 0x3f).toInt64)), .second, .val (.int r13), .unset] [(.long (g r13.toNatClampNeg))])) _
    refine XS.lconst X15.here hx rfl (hb hby d4_64) ?_
    show Steps p.tables e below (T15.setTop (mkF m 65 #[.val (.ref a1), .val (.int p2), .val (.ref a3), .val (.long q4), .second, .val (.long (r9.toInt64)), .second, .val (.long (((r9.toInt64) <<< ((32 : Int32) &&& 0x3f).toInt64) ||| ((r11.toInt64) &&& (4294967295 : Int64)))), .second, .val (.long ((1 : Int64) <<< (r12 &&& 0x3f).toInt64)), .second, .val (.int r13), .unset] [(.long (0 : Int64)), (.long (g r13.toNatClampNeg))])) _
    refine XS.lcmp X15.here hx rfl (hb hby d4_65) rfl ?_
    show Steps p.tables e below (T15.setTop (mkF m 66 #[.val (.ref a1), .val (.int p2), .val (.ref a3), .val (.long q4), .second, .val (.long (r9.toInt64)), .second, .val (.long (((r9.toInt64) <<< ((32 : Int32) &&& 0x3f).toInt64) ||| ((r11.toInt64) &&& (4294967295 : Int64)))), .second, .val (.long ((1 : Int64) <<< (r12 &&& 0x3f).toInt64)), .second, .val (.int r13), .unset] [(.int (lcmpW (g r13.toNatClampNeg) (0 : Int64)))])) _
    refine XS.ifYes X15.here hx rfl (pc0 := 66) (pc' := 117) rfl (hb hby d4_66) rfl ((if0 _ _).trans (feq (fun q => hg0 ((lw_eq _ _).mp q))).2) (by decide) (by decide) ?_
    show Steps p.tables e below (T15.setTop (mkF m 117 #[.val (.ref a1), .val (.int p2), .val (.ref a3), .val (.long q4), .second, .val (.long (r9.toInt64)), .second, .val (.long (((r9.toInt64) <<< ((32 : Int32) &&& 0x3f).toInt64) ||| ((r11.toInt64) &&& (4294967295 : Int64)))), .second, .val (.long ((1 : Int64) <<< (r12 &&& 0x3f).toInt64)), .second, .val (.int r13), .unset] [])) _
    refine XS.aloadN X15.here hx rfl (hb hby d4_117) rfl rfl ?_
    show Steps p.tables e below (T15.setTop (mkF m 118 #[.val (.ref a1), .val (.int p2), .val (.ref a3), .val (.long q4), .second, .val (.long (r9.toInt64)), .second, .val (.long (((r9.toInt64) <<< ((32 : Int32) &&& 0x3f).toInt64) ||| ((r11.toInt64) &&& (4294967295 : Int64)))), .second, .val (.long ((1 : Int64) <<< (r12 &&& 0x3f).toInt64)), .second, .val (.int r13), .unset] [(.ref a1)])) _
    refine st17 _ ?_
    show Steps p.tables e below (T17.setTop (mkF m 121 #[.val (.ref a1), .val (.int p2), .val (.ref a3), .val (.long q4), .second, .val (.long (r9.toInt64)), .second, .val (.long (((r9.toInt64) <<< ((32 : Int32) &&& 0x3f).toInt64) ||| ((r11.toInt64) &&& (4294967295 : Int64)))), .second, .val (.long ((1 : Int64) <<< (r12 &&& 0x3f).toInt64)), .second, .val (.int r13), .unset] [(.ref w14)])) _
    refine XS.iload X17.here hx rfl (hb hby d4_121) rfl ?_
    show Steps p.tables e below (T17.setTop (mkF m 123 #[.val (.ref a1), .val (.int p2), .val (.ref a3), .val (.long q4), .second, .val (.long (r9.toInt64)), .second, .val (.long (((r9.toInt64) <<< ((32 : Int32) &&& 0x3f).toInt64) ||| ((r11.toInt64) &&& (4294967295 : Int64)))), .second, .val (.long ((1 : Int64) <<< (r12 &&& 0x3f).toInt64)), .second, .val (.int r13), .unset] [(.int r13), (.ref w14)])) _
    refine X17.laload hx (j := r13) (v := (.long (g r13.toNatClampNeg))) (by rw [e17]; exact Ar_w14.1) (State.isArrayOf_alike hZ.alike Ar_w14.2.1) Ar_w14.2.2 hin14 hat14 (g := (mkF m 123 #[.val (.ref a1), .val (.int p2), .val (.ref a3), .val (.long q4), .second, .val (.long (r9.toInt64)), .second, .val (.long (((r9.toInt64) <<< ((32 : Int32) &&& 0x3f).toInt64) ||| ((r11.toInt64) &&& (4294967295 : Int64)))), .second, .val (.long ((1 : Int64) <<< (r12 &&& 0x3f).toInt64)), .second, .val (.int r13), .unset] [(.int r13), (.ref w14)])) rfl rfl (hb hby d4_123) _ ?_
    show Steps p.tables e below (T17.setTop (mkF m 124 #[.val (.ref a1), .val (.int p2), .val (.ref a3), .val (.long q4), .second, .val (.long (r9.toInt64)), .second, .val (.long (((r9.toInt64) <<< ((32 : Int32) &&& 0x3f).toInt64) ||| ((r11.toInt64) &&& (4294967295 : Int64)))), .second, .val (.long ((1 : Int64) <<< (r12 &&& 0x3f).toInt64)), .second, .val (.int r13), .unset] [(.long (g r13.toNatClampNeg))])) _
    refine XS.lload X17.here hx rfl (hb hby d4_124) rfl ?_
    show Steps p.tables e below (T17.setTop (mkF m 126 #[.val (.ref a1), .val (.int p2), .val (.ref a3), .val (.long q4), .second, .val (.long (r9.toInt64)), .second, .val (.long (((r9.toInt64) <<< ((32 : Int32) &&& 0x3f).toInt64) ||| ((r11.toInt64) &&& (4294967295 : Int64)))), .second, .val (.long ((1 : Int64) <<< (r12 &&& 0x3f).toInt64)), .second, .val (.int r13), .unset] [(.long ((1 : Int64) <<< (r12 &&& 0x3f).toInt64)), (.long (g r13.toNatClampNeg))])) _
    refine XS.land X17.here hx rfl (hb hby d4_126) rfl ?_
    show Steps p.tables e below (T17.setTop (mkF m 127 #[.val (.ref a1), .val (.int p2), .val (.ref a3), .val (.long q4), .second, .val (.long (r9.toInt64)), .second, .val (.long (((r9.toInt64) <<< ((32 : Int32) &&& 0x3f).toInt64) ||| ((r11.toInt64) &&& (4294967295 : Int64)))), .second, .val (.long ((1 : Int64) <<< (r12 &&& 0x3f).toInt64)), .second, .val (.int r13), .unset] [(.long ((g r13.toNatClampNeg) &&& ((1 : Int64) <<< (r12 &&& 0x3f).toInt64)))])) _
    refine XS.lconst X17.here hx rfl (hb hby d4_127) ?_
    show Steps p.tables e below (T17.setTop (mkF m 128 #[.val (.ref a1), .val (.int p2), .val (.ref a3), .val (.long q4), .second, .val (.long (r9.toInt64)), .second, .val (.long (((r9.toInt64) <<< ((32 : Int32) &&& 0x3f).toInt64) ||| ((r11.toInt64) &&& (4294967295 : Int64)))), .second, .val (.long ((1 : Int64) <<< (r12 &&& 0x3f).toInt64)), .second, .val (.int r13), .unset] [(.long (0 : Int64)), (.long ((g r13.toNatClampNeg) &&& ((1 : Int64) <<< (r12 &&& 0x3f).toInt64)))])) _
    refine XS.lcmp X17.here hx rfl (hb hby d4_128) rfl ?_
    show Steps p.tables e below (T17.setTop (mkF m 129 #[.val (.ref a1), .val (.int p2), .val (.ref a3), .val (.long q4), .second, .val (.long (r9.toInt64)), .second, .val (.long (((r9.toInt64) <<< ((32 : Int32) &&& 0x3f).toInt64) ||| ((r11.toInt64) &&& (4294967295 : Int64)))), .second, .val (.long ((1 : Int64) <<< (r12 &&& 0x3f).toInt64)), .second, .val (.int r13), .unset] [(.int (lcmpW ((g r13.toNatClampNeg) &&& ((1 : Int64) <<< (r12 &&& 0x3f).toInt64)) (0 : Int64)))])) _
    refine XS.ifYes X17.here hx rfl (pc0 := 129) (pc' := 136) rfl (hb hby d4_129) rfl ((if0 _ _).trans (feq (fun q => hg1 ((lw_eq _ _).mp q))).2) (by decide) (by decide) ?_
    show Steps p.tables e below (T17.setTop (mkF m 136 #[.val (.ref a1), .val (.int p2), .val (.ref a3), .val (.long q4), .second, .val (.long (r9.toInt64)), .second, .val (.long (((r9.toInt64) <<< ((32 : Int32) &&& 0x3f).toInt64) ||| ((r11.toInt64) &&& (4294967295 : Int64)))), .second, .val (.long ((1 : Int64) <<< (r12 &&& 0x3f).toInt64)), .second, .val (.int r13), .unset] [])) _
    refine XS.iconst X17.here hx rfl (hb hby d4_136) ?_
    show Steps p.tables e below (T17.setTop (mkF m 137 #[.val (.ref a1), .val (.int p2), .val (.ref a3), .val (.long q4), .second, .val (.long (r9.toInt64)), .second, .val (.long (((r9.toInt64) <<< ((32 : Int32) &&& 0x3f).toInt64) ||| ((r11.toInt64) &&& (4294967295 : Int64)))), .second, .val (.long ((1 : Int64) <<< (r12 &&& 0x3f).toInt64)), .second, .val (.int r13), .unset] [(.int (0 : Int32))])) _
    refine XS.istore X17.here hx rfl (hb hby d4_137) rfl (l' := #[.val (.ref a1), .val (.int p2), .val (.ref a3), .val (.long q4), .second, .val (.long (r9.toInt64)), .second, .val (.long (((r9.toInt64) <<< ((32 : Int32) &&& 0x3f).toInt64) ||| ((r11.toInt64) &&& (4294967295 : Int64)))), .second, .val (.long ((1 : Int64) <<< (r12 &&& 0x3f).toInt64)), .second, .val (.int r13), .val (.int (0 : Int32))]) rfl ?_
    show Steps p.tables e below (T17.setTop (mkF m 139 #[.val (.ref a1), .val (.int p2), .val (.ref a3), .val (.long q4), .second, .val (.long (r9.toInt64)), .second, .val (.long (((r9.toInt64) <<< ((32 : Int32) &&& 0x3f).toInt64) ||| ((r11.toInt64) &&& (4294967295 : Int64)))), .second, .val (.long ((1 : Int64) <<< (r12 &&& 0x3f).toInt64)), .second, .val (.int r13), .val (.int (0 : Int32))] [])) _
    refine XS.aloadN X17.here hx rfl (hb hby d4_139) rfl rfl ?_
    show Steps p.tables e below (T17.setTop (mkF m 140 #[.val (.ref a1), .val (.int p2), .val (.ref a3), .val (.long q4), .second, .val (.long (r9.toInt64)), .second, .val (.long (((r9.toInt64) <<< ((32 : Int32) &&& 0x3f).toInt64) ||| ((r11.toInt64) &&& (4294967295 : Int64)))), .second, .val (.long ((1 : Int64) <<< (r12 &&& 0x3f).toInt64)), .second, .val (.int r13), .val (.int (0 : Int32))] [(.ref a1)])) _
    refine st19 _ ?_
    show Steps p.tables e below (T19.setTop (mkF m 143 #[.val (.ref a1), .val (.int p2), .val (.ref a3), .val (.long q4), .second, .val (.long (r9.toInt64)), .second, .val (.long (((r9.toInt64) <<< ((32 : Int32) &&& 0x3f).toInt64) ||| ((r11.toInt64) &&& (4294967295 : Int64)))), .second, .val (.long ((1 : Int64) <<< (r12 &&& 0x3f).toInt64)), .second, .val (.int r13), .val (.int (0 : Int32))] [(.ref w14)])) _
    refine XS.iload X19.here hx rfl (hb hby d4_143) rfl ?_
    show Steps p.tables e below (T19.setTop (mkF m 145 #[.val (.ref a1), .val (.int p2), .val (.ref a3), .val (.long q4), .second, .val (.long (r9.toInt64)), .second, .val (.long (((r9.toInt64) <<< ((32 : Int32) &&& 0x3f).toInt64) ||| ((r11.toInt64) &&& (4294967295 : Int64)))), .second, .val (.long ((1 : Int64) <<< (r12 &&& 0x3f).toInt64)), .second, .val (.int r13), .val (.int (0 : Int32))] [(.int r13), (.ref w14)])) _
    refine Jvm.Free.XT.dup2 X19.here hx rfl (hb hby d4_145) rfl rfl rfl ?_
    show Steps p.tables e below (T19.setTop (mkF m 146 #[.val (.ref a1), .val (.int p2), .val (.ref a3), .val (.long q4), .second, .val (.long (r9.toInt64)), .second, .val (.long (((r9.toInt64) <<< ((32 : Int32) &&& 0x3f).toInt64) ||| ((r11.toInt64) &&& (4294967295 : Int64)))), .second, .val (.long ((1 : Int64) <<< (r12 &&& 0x3f).toInt64)), .second, .val (.int r13), .val (.int (0 : Int32))] [(.int r13), (.ref w14), (.int r13), (.ref w14)])) _
    refine X19.laload hx (j := r13) (v := (.long (g r13.toNatClampNeg))) (by rw [e19]; exact Ar_w14.1) (State.isArrayOf_alike hZ.alike Ar_w14.2.1) Ar_w14.2.2 hin14 hat14 (g := (mkF m 146 #[.val (.ref a1), .val (.int p2), .val (.ref a3), .val (.long q4), .second, .val (.long (r9.toInt64)), .second, .val (.long (((r9.toInt64) <<< ((32 : Int32) &&& 0x3f).toInt64) ||| ((r11.toInt64) &&& (4294967295 : Int64)))), .second, .val (.long ((1 : Int64) <<< (r12 &&& 0x3f).toInt64)), .second, .val (.int r13), .val (.int (0 : Int32))] [(.int r13), (.ref w14), (.int r13), (.ref w14)])) rfl rfl (hb hby d4_146) _ ?_
    show Steps p.tables e below (T19.setTop (mkF m 147 #[.val (.ref a1), .val (.int p2), .val (.ref a3), .val (.long q4), .second, .val (.long (r9.toInt64)), .second, .val (.long (((r9.toInt64) <<< ((32 : Int32) &&& 0x3f).toInt64) ||| ((r11.toInt64) &&& (4294967295 : Int64)))), .second, .val (.long ((1 : Int64) <<< (r12 &&& 0x3f).toInt64)), .second, .val (.int r13), .val (.int (0 : Int32))] [(.long (g r13.toNatClampNeg)), (.int r13), (.ref w14)])) _
    refine XS.lload X19.here hx rfl (hb hby d4_147) rfl ?_
    show Steps p.tables e below (T19.setTop (mkF m 149 #[.val (.ref a1), .val (.int p2), .val (.ref a3), .val (.long q4), .second, .val (.long (r9.toInt64)), .second, .val (.long (((r9.toInt64) <<< ((32 : Int32) &&& 0x3f).toInt64) ||| ((r11.toInt64) &&& (4294967295 : Int64)))), .second, .val (.long ((1 : Int64) <<< (r12 &&& 0x3f).toInt64)), .second, .val (.int r13), .val (.int (0 : Int32))] [(.long ((1 : Int64) <<< (r12 &&& 0x3f).toInt64)), (.long (g r13.toNatClampNeg)), (.int r13), (.ref w14)])) _
    refine XS.lor X19.here hx rfl (hb hby d4_149) rfl ?_
    show Steps p.tables e below (T19.setTop (mkF m 150 #[.val (.ref a1), .val (.int p2), .val (.ref a3), .val (.long q4), .second, .val (.long (r9.toInt64)), .second, .val (.long (((r9.toInt64) <<< ((32 : Int32) &&& 0x3f).toInt64) ||| ((r11.toInt64) &&& (4294967295 : Int64)))), .second, .val (.long ((1 : Int64) <<< (r12 &&& 0x3f).toInt64)), .second, .val (.int r13), .val (.int (0 : Int32))] [(.long ((g r13.toNatClampNeg) ||| ((1 : Int64) <<< (r12 &&& 0x3f).toInt64))), (.int r13), (.ref w14)])) _
    refine st21 _ ?_
    show Steps p.tables e below (T21.setTop (mkF m 151 #[.val (.ref a1), .val (.int p2), .val (.ref a3), .val (.long q4), .second, .val (.long (r9.toInt64)), .second, .val (.long (((r9.toInt64) <<< ((32 : Int32) &&& 0x3f).toInt64) ||| ((r11.toInt64) &&& (4294967295 : Int64)))), .second, .val (.long ((1 : Int64) <<< (r12 &&& 0x3f).toInt64)), .second, .val (.int r13), .val (.int (0 : Int32))] [])) _
    refine XS.iload X21.here hx rfl (hb hby d4_151) rfl ?_
    show Steps p.tables e below (T21.setTop (mkF m 153 #[.val (.ref a1), .val (.int p2), .val (.ref a3), .val (.long q4), .second, .val (.long (r9.toInt64)), .second, .val (.long (((r9.toInt64) <<< ((32 : Int32) &&& 0x3f).toInt64) ||| ((r11.toInt64) &&& (4294967295 : Int64)))), .second, .val (.long ((1 : Int64) <<< (r12 &&& 0x3f).toInt64)), .second, .val (.int r13), .val (.int (0 : Int32))] [(.int (0 : Int32))])) _
    exact retN X21 hx (t := .boolean) Bd.returns (by simp) (hb hby d4_153) hr
  · show own_QA Z a1 w17 w14 h0 n0 (0 : Int32) f (own_upd g r13.toNatClampNeg (g r13.toNatClampNeg ||| ((1 : Int64) <<< (r12 &&& 0x3f).toInt64))) w22 _ T21.heap _
    rw [e21]
    exact ⟨rfl, N21, own_keep1 K21, E_a1.wr W21, F_keys_a1.other W21 (Or.inl hne14), F_words_a1.other W21 (Or.inl hne14), F_size_a1.other W21 (Or.inl hne14), ⟨_, Ar_w17.other W21 hkw, s17, H17⟩, ⟨_, Ar_w14.same W21, own_set s14 H14 _ _⟩, hkw⟩
theorem d4_132 : decode prog_41_method_2_code 132 = .ok (.iconst 1, 1) := by decide +kernel
theorem d4_133 : decode prog_41_method_2_code 133 = .ok (.goto 4, 3) := by decide +kernel
set_option maxRecDepth 65536 in
set_option maxHeartbeats 40000000 in
theorem rm4_tf (l : Launch) (Z : State) (a0 : Array Value) (hw : ∀ d ∈ tables_1, d.before a0 Z = true) (ws : List Jvm.Cond) (a1 : Addr) (p2 : Int32) (a3 : Addr) (q4 : Int64) (w5 : Int32) (r7 : Int32) (r8 : Int32) (r9 : Int32) (r10 : Int64) (r11 : Int32) (r12 : Int32) (r13 : Int32) (w14 : Addr) (w17 : Addr) (w22 : Int32) (f g : Nat → Int64) (h0 : Heap) (n0 : Nat) (Z0 : n0 ≤ h0.size) (S_KINDS : Sta Z h0 "com/example/crackline/crackline/SeenValues" "KINDS" "I" (.int w5)) (Hm7 : M5 l Z [] p2 w5 h0 n0 (some (.int r7))) (Hm8 : M6 l Z [] a3 h0 n0 (some (.int r8))) (E_a3 : Exa Z h0 a3 "com/example/crackline/crackline/PriceKind") (Hm9 : M7 l Z [] r7 r8 h0 n0 (some (.int r9))) (Hm10 : M8 l Z [] q4 (64 : Int32) h0 n0 (some (.long r10))) (Hm11 : M10 l Z [] r10 h0 n0 (some (.int r11))) (Hm12 : M11 l Z [] q4 (64 : Int32) h0 n0 (some (.int r12))) (Hm13 : M13 l Z [] a1 (((r9.toInt64) <<< ((32 : Int32) &&& 0x3f).toInt64) ||| ((r11.toInt64) &&& (4294967295 : Int64))) h0 n0 (some (.int r13))) (HS : own_S Z h0 a1 w17 w14 f g w22) (hir : 0 ≤ r13.toInt ∧ r13.toInt < 1024) (g_a1 : n0 ≤ a1) (g_w17 : n0 ≤ w17) (g_w14 : n0 ≤ w14) (hg0 : ¬ g r13.toNatClampNeg = 0) (hg1 : (g r13.toNatClampNeg &&& ((1 : Int64) <<< (r12 &&& 0x3f).toInt64)) = 0) :
    MetFree l (⟨"com/example/crackline/crackline/SeenValues", "add", "(ILcom/example/crackline/crackline/PriceKind;J)Z"⟩ : MethodName) (head1 (Jvm.Cond.code (⟨"com/example/crackline/crackline/SeenValues", "add", "(ILcom/example/crackline/crackline/PriceKind;J)Z"⟩ : MethodName) prog_41_method_2_code 13 (some .boolean) :: ws) ({ frames := 3, cells := 0, slots := 0, locals := 46 } : Room)) (fun a U => a = #[(.ref a1), (.int p2), (.ref a3), (.long q4)] ∧ Z.Warmed39 U.vm ∧ U.heap = h0) (fun _ _ _ _ _ => True) (fun _ U o U' => ∃ v L, o = .returned v ∧ own_QA Z a1 w17 w14 h0 n0 (1 : Int32) f (own_upd g r13.toNatClampNeg (g r13.toNatClampNeg ||| ((1 : Int64) <<< (r12 &&& 0x3f).toInt64))) w22 v U'.heap L ∧ FrameEnd U o U' L ({ frames := 3, cells := 0, slots := 0, locals := 46 } : Room).cells ({ frames := 3, cells := 0, slots := 0, locals := 46 } : Room).slots) := by
  refine MetFree.of_bodySF (plainFor_of_name pn_4) hisR ?_
  intro p e s m args below meth c s₁ Bd hml0 hP hK
  obtain ⟨rfl, hZ, hh⟩ := hP
  have hx := Bd.exec
  have hby := Bd.bytes
  have hml : c.maxLocals = 13 := hml0
  have hown : s.vm.findClass "com/example/crackline/crackline/SeenValues" = some m.cls := findClass_of_methodNamed Bd.named
  have hnm := (name_of_methodNamed Bd.named Bd.method).1
  have X0 : Stand p l e ({ frames := 3, cells := 0, slots := 0, locals := 46 } : Room) s m #[(.ref a1), (.int p2), (.ref a3), (.long q4)] below meth c s₁ [] 0 0 := Stand.of_body Bd
  have e0 : s₁.heap = h0 := by rw [← hh, Bd.state]; rfl
  have N0 := Fr.nil n0
  obtain ⟨E_a1, F_keys_a1, F_words_a1, F_size_a1, ⟨cl_w17, Ar_w17, s17, H17⟩, ⟨cl_w14, Ar_w14, s14, H14⟩, hkw⟩ := HS
  have hlt := own_nat hir
  have hin14 := own_in hir s14
  have hin17 := own_in hir s17
  have hat14 := H14 _ hlt
  have hne17 : a1 ≠ w17 := ne_arr E_a1 (hw _ (List.mem_of_getElem? (i := 11) rfl)) Ar_w17
  have hne14 : a1 ≠ w14 := ne_arr E_a1 (hw _ (List.mem_of_getElem? (i := 11) rfl)) Ar_w14
  have pre0 : ∀ t, Steps p.tables e below (s₁.setTop (mkF m 0 #[.val (.ref a1), .val (.int p2), .val (.ref a3), .val (.long q4), .second, .unset, .unset, .unset, .unset, .unset, .unset, .unset, .unset] [])) t → Steps p.tables e below (s₁.setTop (entryFrame m #[(.ref a1), (.int p2), (.ref a3), (.long q4)] 13)) t := fun t k => castTop (ef_4 m a1 p2 a3 q4) k
  obtain ⟨T6, X6, e6, st6⟩ := getS2 X0 hx hZ hown (host := "") (Or.inl (hw _ (List.mem_of_getElem? (i := 29) rfl))) Via.refl e0 S_KINDS (g := (mkF m 1 #[.val (.ref a1), .val (.int p2), .val (.ref a3), .val (.long q4), .second, .unset, .unset, .unset, .unset, .unset, .unset, .unset, .unset] [(.int p2)])) rfl (hb hby d4_1)
  obtain ⟨_, _, ⟨T7, L7, k7, n7⟩, -, X7, ⟨Lc7, hQ7, l7, y7, z7⟩, st7⟩ := Jvm.LawKit.callS X6 hx (y := (⟨"java/lang/Math", "multiplyExact", "(II)I"⟩ : MethodName)) hown (mvT hZ (hw _ (List.mem_of_getElem? (i := 31) rfl))) (mvT hZ (hw _ (List.mem_of_getElem? (i := 32) rfl))) (mvT hZ (hw _ (List.mem_of_getElem? (i := 33) rfl))) (mvT hZ (hw _ (List.mem_of_getElem? (i := 34) rfl))) (by decide) (backOf (W := 0) Hm7 hZ (hw _ (List.mem_of_getElem? (i := 34) rfl)) (hw _ (List.mem_of_getElem? (i := 33) rfl)) (by decide) (by decide)) (g := (mkF m 4 #[.val (.ref a1), .val (.int p2), .val (.ref a3), .val (.long q4), .second, .unset, .unset, .unset, .unset, .unset, .unset, .unset, .unset] [(.int w5), (.int p2)])) rfl (by rw [hml]; rfl) (argsL := [(.int p2), (.int w5)]) (rest := []) (lenOf pd_4_3 rfl) rfl (by show 2 * 0 + _ ≤ _; exact Nat.le_of_eq rfl) (hb hby d4_4) (fun _ _ => ⟨rfl, e6, (by decide : 0 + 0 ≤ _), (by decide : 0 + 0 ≤ _)⟩)
  dsimp only [Pt.U, Pt.locs, Pt.cells, Pt.slots] at X7 l7 y7 z7 st7 hQ7
  subst l7 y7 z7
  obtain ⟨rfl, N7q, hh7⟩ := hQ7
  have N7 := Fr.app N0 N7q
  obtain ⟨cq8, kq8, q8a, q8b, q8c⟩ := isOf hZ hh7 E_a3
  obtain ⟨_, _, ⟨T8, L8, k8, n8⟩, -, X8, ⟨Lc8, hQ8, l8, y8, z8⟩, st8⟩ := X7.virtualBackUp hx (x := (⟨"com/example/crackline/crackline/PriceKind", "ordinal", "()I"⟩ : MethodName)) (y := (⟨"java/lang/Enum", "ordinal", "()I"⟩ : MethodName)) (owner := "java/lang/Enum") hown (mvT hZ (hw _ (List.mem_of_getElem? (i := 35) rfl))) (mvT hZ (hw _ (List.mem_of_getElem? (i := 36) rfl))) (mvT hZ (hw _ (List.mem_of_getElem? (i := 37) rfl))) (by decide) (mvT hZ (hw _ (List.mem_of_getElem? (i := 39) rfl))) (mvT hZ (hw _ (List.mem_of_getElem? (i := 38) rfl))) (backOf (W := 1) Hm8 hZ (hw _ (List.mem_of_getElem? (i := 41) rfl)) (hw _ (List.mem_of_getElem? (i := 40) rfl)) (by decide) (by decide)) q8a q8c (g := (mkF m 8 #[.val (.ref a1), .val (.int p2), .val (.ref a3), .val (.long q4), .second, .unset, .unset, .unset, .unset, .unset, .unset, .unset, .unset] [(.ref a3), (.int r7)])) rfl (by rw [hml]; rfl) (Steps.refl _) (argsL := []) (rest := [(.int r7)]) (lenOf pd_4_4 rfl) rfl (by show 2 * 0 + _ ≤ _; exact Nat.le_of_eq rfl) (hb hby d4_8) (fun _ _ => ⟨rfl, hh7, (by decide : 0 + 0 ≤ _), (by decide : 0 + 0 ≤ _)⟩)
  dsimp only [Pt.U, Pt.locs, Pt.cells, Pt.slots] at X8 l8 y8 z8 st8 hQ8
  subst l8 y8 z8
  obtain ⟨rfl, N8q, hh8⟩ := hQ8
  have N8 := Fr.app N7 N8q
  obtain ⟨_, _, ⟨T9, L9, k9, n9⟩, -, X9, ⟨Lc9, hQ9, l9, y9, z9⟩, st9⟩ := Jvm.LawKit.callS X8 hx (y := (⟨"java/lang/Math", "addExact", "(II)I"⟩ : MethodName)) hown (mvT hZ (hw _ (List.mem_of_getElem? (i := 44) rfl))) (mvT hZ (hw _ (List.mem_of_getElem? (i := 45) rfl))) (mvT hZ (hw _ (List.mem_of_getElem? (i := 33) rfl))) (mvT hZ (hw _ (List.mem_of_getElem? (i := 46) rfl))) (by decide) (backOf (W := 0) Hm9 hZ (hw _ (List.mem_of_getElem? (i := 46) rfl)) (hw _ (List.mem_of_getElem? (i := 33) rfl)) (by decide) (by decide)) (g := (mkF m 11 #[.val (.ref a1), .val (.int p2), .val (.ref a3), .val (.long q4), .second, .unset, .unset, .unset, .unset, .unset, .unset, .unset, .unset] [(.int r8), (.int r7)])) rfl (by rw [hml]; rfl) (argsL := [(.int r7), (.int r8)]) (rest := []) (lenOf pd_4_3 rfl) rfl (by show 2 * 0 + _ ≤ _; exact Nat.le_of_eq rfl) (hb hby d4_11) (fun _ _ => ⟨rfl, hh8, (by decide : 0 + 0 ≤ _), (by decide : 0 + 0 ≤ _)⟩)
  dsimp only [Pt.U, Pt.locs, Pt.cells, Pt.slots] at X9 l9 y9 z9 st9 hQ9
  subst l9 y9 z9
  obtain ⟨rfl, N9q, hh9⟩ := hQ9
  have N9 := Fr.app N8 N9q
  obtain ⟨_, _, ⟨T10, L10, k10, n10⟩, -, X10, ⟨Lc10, hQ10, l10, y10, z10⟩, st10⟩ := Jvm.LawKit.callS X9 hx (y := (⟨"java/lang/Math", "floorDiv", "(JI)J"⟩ : MethodName)) hown (mvT hZ (hw _ (List.mem_of_getElem? (i := 47) rfl))) (mvT hZ (hw _ (List.mem_of_getElem? (i := 48) rfl))) (mvT hZ (hw _ (List.mem_of_getElem? (i := 33) rfl))) (mvT hZ (hw _ (List.mem_of_getElem? (i := 49) rfl))) (by decide) (backOf (W := 2) Hm10 hZ (hw _ (List.mem_of_getElem? (i := 49) rfl)) (hw _ (List.mem_of_getElem? (i := 33) rfl)) (by decide) (by decide)) (g := (mkF m 25 #[.val (.ref a1), .val (.int p2), .val (.ref a3), .val (.long q4), .second, .val (.long (r9.toInt64)), .second, .unset, .unset, .unset, .unset, .unset, .unset] [(.int (64 : Int32)), (.long q4), (.long ((r9.toInt64) <<< ((32 : Int32) &&& 0x3f).toInt64))])) rfl (by rw [hml]; rfl) (argsL := [(.long q4), (.int (64 : Int32))]) (rest := [(.long ((r9.toInt64) <<< ((32 : Int32) &&& 0x3f).toInt64))]) (lenOf pd_4_5 rfl) rfl (by show 2 * 0 + _ ≤ _; exact Nat.le_of_eq rfl) (hb hby d4_25) (fun _ _ => ⟨rfl, hh9, (by decide : 0 + 0 ≤ _), (by decide : 0 + 0 ≤ _)⟩)
  dsimp only [Pt.U, Pt.locs, Pt.cells, Pt.slots] at X10 l10 y10 z10 st10 hQ10
  subst l10 y10 z10
  obtain ⟨rfl, N10q, hh10⟩ := hQ10
  have N10 := Fr.app N9 N10q
  obtain ⟨_, _, ⟨T11, L11, k11, n11⟩, -, X11, ⟨Lc11, hQ11, l11, y11, z11⟩, st11⟩ := Jvm.LawKit.callS X10 hx (y := (⟨"java/lang/Math", "toIntExact", "(J)I"⟩ : MethodName)) hown (mvT hZ (hw _ (List.mem_of_getElem? (i := 53) rfl))) (mvT hZ (hw _ (List.mem_of_getElem? (i := 54) rfl))) (mvT hZ (hw _ (List.mem_of_getElem? (i := 33) rfl))) (mvT hZ (hw _ (List.mem_of_getElem? (i := 55) rfl))) (by decide) (backOf (W := 2) Hm11 hZ (hw _ (List.mem_of_getElem? (i := 55) rfl)) (hw _ (List.mem_of_getElem? (i := 33) rfl)) (by decide) (by decide)) (g := (mkF m 28 #[.val (.ref a1), .val (.int p2), .val (.ref a3), .val (.long q4), .second, .val (.long (r9.toInt64)), .second, .unset, .unset, .unset, .unset, .unset, .unset] [(.long r10), (.long ((r9.toInt64) <<< ((32 : Int32) &&& 0x3f).toInt64))])) rfl (by rw [hml]; rfl) (argsL := [(.long r10)]) (rest := [(.long ((r9.toInt64) <<< ((32 : Int32) &&& 0x3f).toInt64))]) (lenOf pd_4_7 rfl) rfl (by show 2 * 0 + _ ≤ _; exact Nat.le_of_eq rfl) (hb hby d4_28) (fun _ _ => ⟨rfl, hh10, (by decide : 0 + 0 ≤ _), (by decide : 0 + 0 ≤ _)⟩)
  dsimp only [Pt.U, Pt.locs, Pt.cells, Pt.slots] at X11 l11 y11 z11 st11 hQ11
  subst l11 y11 z11
  obtain ⟨rfl, N11q, hh11⟩ := hQ11
  have N11 := Fr.app N10 N11q
  obtain ⟨_, _, ⟨T12, L12, k12, n12⟩, -, X12, ⟨Lc12, hQ12, l12, y12, z12⟩, st12⟩ := Jvm.LawKit.callS X11 hx (y := (⟨"java/lang/Math", "floorMod", "(JI)I"⟩ : MethodName)) hown (mvT hZ (hw _ (List.mem_of_getElem? (i := 57) rfl))) (mvT hZ (hw _ (List.mem_of_getElem? (i := 58) rfl))) (mvT hZ (hw _ (List.mem_of_getElem? (i := 33) rfl))) (mvT hZ (hw _ (List.mem_of_getElem? (i := 59) rfl))) (by decide) (backOf (W := 2) Hm12 hZ (hw _ (List.mem_of_getElem? (i := 59) rfl)) (hw _ (List.mem_of_getElem? (i := 33) rfl)) (by decide) (by decide)) (g := (mkF m 43 #[.val (.ref a1), .val (.int p2), .val (.ref a3), .val (.long q4), .second, .val (.long (r9.toInt64)), .second, .val (.long (((r9.toInt64) <<< ((32 : Int32) &&& 0x3f).toInt64) ||| ((r11.toInt64) &&& (4294967295 : Int64)))), .second, .unset, .unset, .unset, .unset] [(.int (64 : Int32)), (.long q4), (.long (1 : Int64))])) rfl (by rw [hml]; rfl) (argsL := [(.long q4), (.int (64 : Int32))]) (rest := [(.long (1 : Int64))]) (lenOf pd_4_8 rfl) rfl (by show 2 * 0 + _ ≤ _; exact Nat.le_of_eq rfl) (hb hby d4_43) (fun _ _ => ⟨rfl, hh11, (by decide : 0 + 0 ≤ _), (by decide : 0 + 0 ≤ _)⟩)
  dsimp only [Pt.U, Pt.locs, Pt.cells, Pt.slots] at X12 l12 y12 z12 st12 hQ12
  subst l12 y12 z12
  obtain ⟨rfl, N12q, hh12⟩ := hQ12
  have N12 := Fr.app N11 N12q
  obtain ⟨cq13, q13, q13'⟩ := E_a1.cell
  obtain ⟨_, _, ⟨T13, L13, k13, n13⟩, -, X13, ⟨Lc13, hQ13, l13, y13, z13⟩, st13⟩ := X12.privateBack hx (y := (⟨"com/example/crackline/crackline/SeenValues", "slot", "(J)I"⟩ : MethodName)) hown (mvT hZ (hw _ (List.mem_of_getElem? (i := 63) rfl))) (mvT hZ (hw _ (List.mem_of_getElem? (i := 64) rfl))) (own_selSlot (mvT hZ (hw _ (List.mem_of_getElem? (i := 27) rfl))) (mvP hZ (hw _ (List.mem_of_getElem? (i := 65) rfl))) (mvT hZ (hw _ (List.mem_of_getElem? (i := 64) rfl)))) (Cond.privateMethod_at (mvP hZ (hw _ (List.mem_of_getElem? (i := 65) rfl)) (args := #[]))) (mvT hZ (hw _ (List.mem_of_getElem? (i := 66) rfl))) (by decide) (backOf (W := 0) Hm13 hZ (hw _ (List.mem_of_getElem? (i := 66) rfl)) (hw _ (List.mem_of_getElem? (i := 12) rfl)) (by decide) (by decide)) (g := (mkF m 52 #[.val (.ref a1), .val (.int p2), .val (.ref a3), .val (.long q4), .second, .val (.long (r9.toInt64)), .second, .val (.long (((r9.toInt64) <<< ((32 : Int32) &&& 0x3f).toInt64) ||| ((r11.toInt64) &&& (4294967295 : Int64)))), .second, .val (.long ((1 : Int64) <<< (r12 &&& 0x3f).toInt64)), .second, .unset, .unset] [(.long (((r9.toInt64) <<< ((32 : Int32) &&& 0x3f).toInt64) ||| ((r11.toInt64) &&& (4294967295 : Int64)))), (.ref a1)])) rfl (by rw [hml]; rfl) (Steps.refl _) (a := a1) (by rw [hh12]; exact q13) q13' (argsL := [(.long (((r9.toInt64) <<< ((32 : Int32) &&& 0x3f).toInt64) ||| ((r11.toInt64) &&& (4294967295 : Int64))))]) (rest := []) (lenOf pd_4_7 rfl) rfl (by show 2 * 0 + _ ≤ _; exact Nat.le_of_eq rfl) (hb hby d4_52) (fun _ _ => ⟨rfl, hh12, (by decide : 0 + 0 ≤ _), (by decide : 0 + 0 ≤ _)⟩)
  dsimp only [Pt.U, Pt.locs, Pt.cells, Pt.slots] at X13 l13 y13 z13 st13 hQ13
  subst l13 y13 z13
  obtain ⟨rfl, N13q, hh13⟩ := hQ13
  have N13 := Fr.app N12 N13q
  obtain ⟨T15, X15, e15, st15⟩ := getF X13 hx hZ hown (host := "") (Or.inl (hw _ (List.mem_of_getElem? (i := 22) rfl))) Via.refl hh13 F_words_a1 (g := (mkF m 58 #[.val (.ref a1), .val (.int p2), .val (.ref a3), .val (.long q4), .second, .val (.long (r9.toInt64)), .second, .val (.long (((r9.toInt64) <<< ((32 : Int32) &&& 0x3f).toInt64) ||| ((r11.toInt64) &&& (4294967295 : Int64)))), .second, .val (.long ((1 : Int64) <<< (r12 &&& 0x3f).toInt64)), .second, .val (.int r13), .unset] [(.ref a1)])) rfl rfl (hb hby d4_58)
  obtain ⟨T17, X17, e17, st17⟩ := getF X15 hx hZ hown (host := "") (Or.inl (hw _ (List.mem_of_getElem? (i := 22) rfl))) Via.refl e15 F_words_a1 (g := (mkF m 118 #[.val (.ref a1), .val (.int p2), .val (.ref a3), .val (.long q4), .second, .val (.long (r9.toInt64)), .second, .val (.long (((r9.toInt64) <<< ((32 : Int32) &&& 0x3f).toInt64) ||| ((r11.toInt64) &&& (4294967295 : Int64)))), .second, .val (.long ((1 : Int64) <<< (r12 &&& 0x3f).toInt64)), .second, .val (.int r13), .unset] [(.ref a1)])) rfl rfl (hb hby d4_118)
  obtain ⟨T19, X19, e19, st19⟩ := getF X17 hx hZ hown (host := "") (Or.inl (hw _ (List.mem_of_getElem? (i := 22) rfl))) Via.refl e17 F_words_a1 (g := (mkF m 140 #[.val (.ref a1), .val (.int p2), .val (.ref a3), .val (.long q4), .second, .val (.long (r9.toInt64)), .second, .val (.long (((r9.toInt64) <<< ((32 : Int32) &&& 0x3f).toInt64) ||| ((r11.toInt64) &&& (4294967295 : Int64)))), .second, .val (.long ((1 : Int64) <<< (r12 &&& 0x3f).toInt64)), .second, .val (.int r13), .val (.int (1 : Int32))] [(.ref a1)])) rfl rfl (hb hby d4_140)
  obtain ⟨T21, h21, X21, e21, W21, st21⟩ := stJ X19 hx hZ e19 Ar_w14 (j := r13) hin14 (g := (mkF m 150 #[.val (.ref a1), .val (.int p2), .val (.ref a3), .val (.long q4), .second, .val (.long (r9.toInt64)), .second, .val (.long (((r9.toInt64) <<< ((32 : Int32) &&& 0x3f).toInt64) ||| ((r11.toInt64) &&& (4294967295 : Int64)))), .second, .val (.long ((1 : Int64) <<< (r12 &&& 0x3f).toInt64)), .second, .val (.int r13), .val (.int (1 : Int32))] [(.long ((g r13.toNatClampNeg) ||| ((1 : Int64) <<< (r12 &&& 0x3f).toInt64))), (.int r13), (.ref w14)])) rfl rfl (hb hby d4_150)
  have N21 := Fr.snoc X21 N13 g_w14
  have K21 : Keep h0 h21 [w14] := (Keep.refl h0 [w14]).wr W21 (Or.inl (List.mem_of_getElem? (i := 0) rfl))
  obtain ⟨fs, hr, hrun, hended, hW, hsame⟩ := X21.leave (v := some (.int (1 : Int32))) (fun h => by rw [Bd.returns] at h; cases h)
  refine ⟨_, _, pre0 _ ?_, hrun, hended, _, _, rfl, ?_, ⟨_, rfl⟩, hW, hsame.mono (by decide) (by decide)⟩
  · show Steps p.tables e below (s₁.setTop (mkF m 0 #[.val (.ref a1), .val (.int p2), .val (.ref a3), .val (.long q4), .second, .unset, .unset, .unset, .unset, .unset, .unset, .unset, .unset] [])) _
    refine XS.iloadN X0.here hx rfl (hb hby d4_0) rfl ?_
    show Steps p.tables e below (s₁.setTop (mkF m 1 #[.val (.ref a1), .val (.int p2), .val (.ref a3), .val (.long q4), .second, .unset, .unset, .unset, .unset, .unset, .unset, .unset, .unset] [(.int p2)])) _
    refine st6 _ ?_
    show Steps p.tables e below (T6.setTop (mkF m 4 #[.val (.ref a1), .val (.int p2), .val (.ref a3), .val (.long q4), .second, .unset, .unset, .unset, .unset, .unset, .unset, .unset, .unset] [(.int w5), (.int p2)])) _
    refine st7 _ ?_
    show Steps p.tables e below (T7.setTop (mkF m 7 #[.val (.ref a1), .val (.int p2), .val (.ref a3), .val (.long q4), .second, .unset, .unset, .unset, .unset, .unset, .unset, .unset, .unset] [(.int r7)])) _
    refine XS.aloadN X7.here hx rfl (hb hby d4_7) rfl rfl ?_
    show Steps p.tables e below (T7.setTop (mkF m 8 #[.val (.ref a1), .val (.int p2), .val (.ref a3), .val (.long q4), .second, .unset, .unset, .unset, .unset, .unset, .unset, .unset, .unset] [(.ref a3), (.int r7)])) _
    refine st8.trans ?_
    show Steps p.tables e below (T8.setTop (mkF m 11 #[.val (.ref a1), .val (.int p2), .val (.ref a3), .val (.long q4), .second, .unset, .unset, .unset, .unset, .unset, .unset, .unset, .unset] [(.int r8), (.int r7)])) _
    refine st9 _ ?_
    show Steps p.tables e below (T9.setTop (mkF m 14 #[.val (.ref a1), .val (.int p2), .val (.ref a3), .val (.long q4), .second, .unset, .unset, .unset, .unset, .unset, .unset, .unset, .unset] [(.int r9)])) _
    refine XS.i2l X9.here hx rfl (hb hby d4_14) rfl ?_
    show Steps p.tables e below (T9.setTop (mkF m 15 #[.val (.ref a1), .val (.int p2), .val (.ref a3), .val (.long q4), .second, .unset, .unset, .unset, .unset, .unset, .unset, .unset, .unset] [(.long (r9.toInt64))])) _
    refine XS.lstore X9.here hx rfl (hb hby d4_15) rfl (l' := #[.val (.ref a1), .val (.int p2), .val (.ref a3), .val (.long q4), .second, .val (.long (r9.toInt64)), .second, .unset, .unset, .unset, .unset, .unset, .unset]) rfl ?_
    show Steps p.tables e below (T9.setTop (mkF m 17 #[.val (.ref a1), .val (.int p2), .val (.ref a3), .val (.long q4), .second, .val (.long (r9.toInt64)), .second, .unset, .unset, .unset, .unset, .unset, .unset] [])) _
    refine XS.lload X9.here hx rfl (hb hby d4_17) rfl ?_
    show Steps p.tables e below (T9.setTop (mkF m 19 #[.val (.ref a1), .val (.int p2), .val (.ref a3), .val (.long q4), .second, .val (.long (r9.toInt64)), .second, .unset, .unset, .unset, .unset, .unset, .unset] [(.long (r9.toInt64))])) _
    refine XS.bipush X9.here hx rfl (hb hby d4_19) ?_
    show Steps p.tables e below (T9.setTop (mkF m 21 #[.val (.ref a1), .val (.int p2), .val (.ref a3), .val (.long q4), .second, .val (.long (r9.toInt64)), .second, .unset, .unset, .unset, .unset, .unset, .unset] [(.int (32 : Int32)), (.long (r9.toInt64))])) _
    refine XS.lshl X9.here hx rfl (hb hby d4_21) rfl ?_
    show Steps p.tables e below (T9.setTop (mkF m 22 #[.val (.ref a1), .val (.int p2), .val (.ref a3), .val (.long q4), .second, .val (.long (r9.toInt64)), .second, .unset, .unset, .unset, .unset, .unset, .unset] [(.long ((r9.toInt64) <<< ((32 : Int32) &&& 0x3f).toInt64))])) _
    refine XS.lloadN X9.here hx rfl (hb hby d4_22) rfl ?_
    show Steps p.tables e below (T9.setTop (mkF m 23 #[.val (.ref a1), .val (.int p2), .val (.ref a3), .val (.long q4), .second, .val (.long (r9.toInt64)), .second, .unset, .unset, .unset, .unset, .unset, .unset] [(.long q4), (.long ((r9.toInt64) <<< ((32 : Int32) &&& 0x3f).toInt64))])) _
    refine XS.bipush X9.here hx rfl (hb hby d4_23) ?_
    show Steps p.tables e below (T9.setTop (mkF m 25 #[.val (.ref a1), .val (.int p2), .val (.ref a3), .val (.long q4), .second, .val (.long (r9.toInt64)), .second, .unset, .unset, .unset, .unset, .unset, .unset] [(.int (64 : Int32)), (.long q4), (.long ((r9.toInt64) <<< ((32 : Int32) &&& 0x3f).toInt64))])) _
    refine st10 _ ?_
    show Steps p.tables e below (T10.setTop (mkF m 28 #[.val (.ref a1), .val (.int p2), .val (.ref a3), .val (.long q4), .second, .val (.long (r9.toInt64)), .second, .unset, .unset, .unset, .unset, .unset, .unset] [(.long r10), (.long ((r9.toInt64) <<< ((32 : Int32) &&& 0x3f).toInt64))])) _
    refine st11 _ ?_
    show Steps p.tables e below (T11.setTop (mkF m 31 #[.val (.ref a1), .val (.int p2), .val (.ref a3), .val (.long q4), .second, .val (.long (r9.toInt64)), .second, .unset, .unset, .unset, .unset, .unset, .unset] [(.int r11), (.long ((r9.toInt64) <<< ((32 : Int32) &&& 0x3f).toInt64))])) _
    refine XS.i2l X11.here hx rfl (hb hby d4_31) rfl ?_
    show Steps p.tables e below (T11.setTop (mkF m 32 #[.val (.ref a1), .val (.int p2), .val (.ref a3), .val (.long q4), .second, .val (.long (r9.toInt64)), .second, .unset, .unset, .unset, .unset, .unset, .unset] [(.long (r11.toInt64)), (.long ((r9.toInt64) <<< ((32 : Int32) &&& 0x3f).toInt64))])) _
    refine X11.ldc2Long hx hown (mvT hZ (hw _ (List.mem_of_getElem? (i := 56) rfl))) (g := (mkF m 32 #[.val (.ref a1), .val (.int p2), .val (.ref a3), .val (.long q4), .second, .val (.long (r9.toInt64)), .second, .unset, .unset, .unset, .unset, .unset, .unset] [(.long (r11.toInt64)), (.long ((r9.toInt64) <<< ((32 : Int32) &&& 0x3f).toInt64))])) rfl (hb hby d4_32) _ ?_
    show Steps p.tables e below (T11.setTop (mkF m 35 #[.val (.ref a1), .val (.int p2), .val (.ref a3), .val (.long q4), .second, .val (.long (r9.toInt64)), .second, .unset, .unset, .unset, .unset, .unset, .unset] [(.long (4294967295 : Int64)), (.long (r11.toInt64)), (.long ((r9.toInt64) <<< ((32 : Int32) &&& 0x3f).toInt64))])) _
    refine XS.land X11.here hx rfl (hb hby d4_35) rfl ?_
    show Steps p.tables e below (T11.setTop (mkF m 36 #[.val (.ref a1), .val (.int p2), .val (.ref a3), .val (.long q4), .second, .val (.long (r9.toInt64)), .second, .unset, .unset, .unset, .unset, .unset, .unset] [(.long ((r11.toInt64) &&& (4294967295 : Int64))), (.long ((r9.toInt64) <<< ((32 : Int32) &&& 0x3f).toInt64))])) _
    refine XS.lor X11.here hx rfl (hb hby d4_36) rfl ?_
    show Steps p.tables e below (T11.setTop (mkF m 37 #[.val (.ref a1), .val (.int p2), .val (.ref a3), .val (.long q4), .second, .val (.long (r9.toInt64)), .second, .unset, .unset, .unset, .unset, .unset, .unset] [(.long (((r9.toInt64) <<< ((32 : Int32) &&& 0x3f).toInt64) ||| ((r11.toInt64) &&& (4294967295 : Int64))))])) _
    refine XS.lstore X11.here hx rfl (hb hby d4_37) rfl (l' := #[.val (.ref a1), .val (.int p2), .val (.ref a3), .val (.long q4), .second, .val (.long (r9.toInt64)), .second, .val (.long (((r9.toInt64) <<< ((32 : Int32) &&& 0x3f).toInt64) ||| ((r11.toInt64) &&& (4294967295 : Int64)))), .second, .unset, .unset, .unset, .unset]) rfl ?_
    show Steps p.tables e below (T11.setTop (mkF m 39 #[.val (.ref a1), .val (.int p2), .val (.ref a3), .val (.long q4), .second, .val (.long (r9.toInt64)), .second, .val (.long (((r9.toInt64) <<< ((32 : Int32) &&& 0x3f).toInt64) ||| ((r11.toInt64) &&& (4294967295 : Int64)))), .second, .unset, .unset, .unset, .unset] [])) _
    refine XS.lconst X11.here hx rfl (hb hby d4_39) ?_
    show Steps p.tables e below (T11.setTop (mkF m 40 #[.val (.ref a1), .val (.int p2), .val (.ref a3), .val (.long q4), .second, .val (.long (r9.toInt64)), .second, .val (.long (((r9.toInt64) <<< ((32 : Int32) &&& 0x3f).toInt64) ||| ((r11.toInt64) &&& (4294967295 : Int64)))), .second, .unset, .unset, .unset, .unset] [(.long (1 : Int64))])) _
    refine XS.lloadN X11.here hx rfl (hb hby d4_40) rfl ?_
    show Steps p.tables e below (T11.setTop (mkF m 41 #[.val (.ref a1), .val (.int p2), .val (.ref a3), .val (.long q4), .second, .val (.long (r9.toInt64)), .second, .val (.long (((r9.toInt64) <<< ((32 : Int32) &&& 0x3f).toInt64) ||| ((r11.toInt64) &&& (4294967295 : Int64)))), .second, .unset, .unset, .unset, .unset] [(.long q4), (.long (1 : Int64))])) _
    refine XS.bipush X11.here hx rfl (hb hby d4_41) ?_
    show Steps p.tables e below (T11.setTop (mkF m 43 #[.val (.ref a1), .val (.int p2), .val (.ref a3), .val (.long q4), .second, .val (.long (r9.toInt64)), .second, .val (.long (((r9.toInt64) <<< ((32 : Int32) &&& 0x3f).toInt64) ||| ((r11.toInt64) &&& (4294967295 : Int64)))), .second, .unset, .unset, .unset, .unset] [(.int (64 : Int32)), (.long q4), (.long (1 : Int64))])) _
    refine st12 _ ?_
    show Steps p.tables e below (T12.setTop (mkF m 46 #[.val (.ref a1), .val (.int p2), .val (.ref a3), .val (.long q4), .second, .val (.long (r9.toInt64)), .second, .val (.long (((r9.toInt64) <<< ((32 : Int32) &&& 0x3f).toInt64) ||| ((r11.toInt64) &&& (4294967295 : Int64)))), .second, .unset, .unset, .unset, .unset] [(.int r12), (.long (1 : Int64))])) _
    refine XS.lshl X12.here hx rfl (hb hby d4_46) rfl ?_
    show Steps p.tables e below (T12.setTop (mkF m 47 #[.val (.ref a1), .val (.int p2), .val (.ref a3), .val (.long q4), .second, .val (.long (r9.toInt64)), .second, .val (.long (((r9.toInt64) <<< ((32 : Int32) &&& 0x3f).toInt64) ||| ((r11.toInt64) &&& (4294967295 : Int64)))), .second, .unset, .unset, .unset, .unset] [(.long ((1 : Int64) <<< (r12 &&& 0x3f).toInt64))])) _
    refine XS.lstore X12.here hx rfl (hb hby d4_47) rfl (l' := #[.val (.ref a1), .val (.int p2), .val (.ref a3), .val (.long q4), .second, .val (.long (r9.toInt64)), .second, .val (.long (((r9.toInt64) <<< ((32 : Int32) &&& 0x3f).toInt64) ||| ((r11.toInt64) &&& (4294967295 : Int64)))), .second, .val (.long ((1 : Int64) <<< (r12 &&& 0x3f).toInt64)), .second, .unset, .unset]) rfl ?_
    show Steps p.tables e below (T12.setTop (mkF m 49 #[.val (.ref a1), .val (.int p2), .val (.ref a3), .val (.long q4), .second, .val (.long (r9.toInt64)), .second, .val (.long (((r9.toInt64) <<< ((32 : Int32) &&& 0x3f).toInt64) ||| ((r11.toInt64) &&& (4294967295 : Int64)))), .second, .val (.long ((1 : Int64) <<< (r12 &&& 0x3f).toInt64)), .second, .unset, .unset] [])) _
    refine XS.aloadN X12.here hx rfl (hb hby d4_49) rfl rfl ?_
    show Steps p.tables e below (T12.setTop (mkF m 50 #[.val (.ref a1), .val (.int p2), .val (.ref a3), .val (.long q4), .second, .val (.long (r9.toInt64)), .second, .val (.long (((r9.toInt64) <<< ((32 : Int32) &&& 0x3f).toInt64) ||| ((r11.toInt64) &&& (4294967295 : Int64)))), .second, .val (.long ((1 : Int64) <<< (r12 &&& 0x3f).toInt64)), .second, .unset, .unset] [(.ref a1)])) _
    refine XS.lload X12.here hx rfl (hb hby d4_50) rfl ?_
    show Steps p.tables e below (T12.setTop (mkF m 52 #[.val (.ref a1), .val (.int p2), .val (.ref a3), .val (.long q4), .second, .val (.long (r9.toInt64)), .second, .val (.long (((r9.toInt64) <<< ((32 : Int32) &&& 0x3f).toInt64) ||| ((r11.toInt64) &&& (4294967295 : Int64)))), .second, .val (.long ((1 : Int64) <<< (r12 &&& 0x3f).toInt64)), .second, .unset, .unset] [(.long (((r9.toInt64) <<< ((32 : Int32) &&& 0x3f).toInt64) ||| ((r11.toInt64) &&& (4294967295 : Int64)))), (.ref a1)])) _
    refine st13.trans ?_
    show Steps p.tables e below (T13.setTop (mkF m 55 #[.val (.ref a1), .val (.int p2), .val (.ref a3), .val (.long q4), .second, .val (.long (r9.toInt64)), .second, .val (.long (((r9.toInt64) <<< ((32 : Int32) &&& 0x3f).toInt64) ||| ((r11.toInt64) &&& (4294967295 : Int64)))), .second, .val (.long ((1 : Int64) <<< (r12 &&& 0x3f).toInt64)), .second, .unset, .unset] [(.int r13)])) _
    refine XS.istore X13.here hx rfl (hb hby d4_55) rfl (l' := #[.val (.ref a1), .val (.int p2), .val (.ref a3), .val (.long q4), .second, .val (.long (r9.toInt64)), .second, .val (.long (((r9.toInt64) <<< ((32 : Int32) &&& 0x3f).toInt64) ||| ((r11.toInt64) &&& (4294967295 : Int64)))), .second, .val (.long ((1 : Int64) <<< (r12 &&& 0x3f).toInt64)), .second, .val (.int r13), .unset]) rfl ?_
    show Steps p.tables e below (T13.setTop (mkF m 57 #[.val (.ref a1), .val (.int p2), .val (.ref a3), .val (.long q4), .second, .val (.long (r9.toInt64)), .second, .val (.long (((r9.toInt64) <<< ((32 : Int32) &&& 0x3f).toInt64) ||| ((r11.toInt64) &&& (4294967295 : Int64)))), .second, .val (.long ((1 : Int64) <<< (r12 &&& 0x3f).toInt64)), .second, .val (.int r13), .unset] [])) _
    refine XS.aloadN X13.here hx rfl (hb hby d4_57) rfl rfl ?_
    show Steps p.tables e below (T13.setTop (mkF m 58 #[.val (.ref a1), .val (.int p2), .val (.ref a3), .val (.long q4), .second, .val (.long (r9.toInt64)), .second, .val (.long (((r9.toInt64) <<< ((32 : Int32) &&& 0x3f).toInt64) ||| ((r11.toInt64) &&& (4294967295 : Int64)))), .second, .val (.long ((1 : Int64) <<< (r12 &&& 0x3f).toInt64)), .second, .val (.int r13), .unset] [(.ref a1)])) _
    refine st15 _ ?_
    show Steps p.tables e below (T15.setTop (mkF m 61 #[.val (.ref a1), .val (.int p2), .val (.ref a3), .val (.long q4), .second, .val (.long (r9.toInt64)), .second, .val (.long (((r9.toInt64) <<< ((32 : Int32) &&& 0x3f).toInt64) ||| ((r11.toInt64) &&& (4294967295 : Int64)))), .second, .val (.long ((1 : Int64) <<< (r12 &&& 0x3f).toInt64)), .second, .val (.int r13), .unset] [(.ref w14)])) _
    refine XS.iload X15.here hx rfl (hb hby d4_61) rfl ?_
    show Steps p.tables e below (T15.setTop (mkF m 63 #[.val (.ref a1), .val (.int p2), .val (.ref a3), .val (.long q4), .second, .val (.long (r9.toInt64)), .second, .val (.long (((r9.toInt64) <<< ((32 : Int32) &&& 0x3f).toInt64) ||| ((r11.toInt64) &&& (4294967295 : Int64)))), .second, .val (.long ((1 : Int64) <<< (r12 &&& 0x3f).toInt64)), .second, .val (.int r13), .unset] [(.int r13), (.ref w14)])) _
    refine X15.laload hx (j := r13) (v := (.long (g r13.toNatClampNeg))) (by rw [e15]; exact Ar_w14.1) (State.isArrayOf_alike hZ.alike Ar_w14.2.1) Ar_w14.2.2 hin14 hat14 (g := (mkF m 63 #[.val (.ref a1), .val (.int p2), .val (.ref a3), .val (.long q4), .second, .val (.long (r9.toInt64)), .second, .val (.long (((r9.toInt64) <<< ((32 : Int32) &&& 0x3f).toInt64) ||| ((r11.toInt64) &&& (4294967295 : Int64)))), .second, .val (.long ((1 : Int64) <<< (r12 &&& 0x3f).toInt64)), .second, .val (.int r13), .unset] [(.int r13), (.ref w14)])) rfl rfl (hb hby d4_63) _ ?_
    show Steps p.tables e below (T15.setTop (mkF m 64 #[.val (.ref a1), .val (.int p2), .val (.ref a3), .val (.long q4), .second, .val (.long (r9.toInt64)), .second, .val (.long (((r9.toInt64) <<< ((32 : Int32) &&& 0x3f).toInt64) ||| ((r11.toInt64) &&& (4294967295 : Int64)))), .second, .val (.long ((1 : Int64) <<< (r12 &&& 0x3f).toInt64)), .second, .val (.int r13), .unset] [(.long (g r13.toNatClampNeg))])) _
    refine XS.lconst X15.here hx rfl (hb hby d4_64) ?_
    show Steps p.tables e below (T15.setTop (mkF m 65 #[.val (.ref a1), .val (.int p2), .val (.ref a3), .val (.long q4), .second, .val (.long (r9.toInt64)), .second, .val (.long (((r9.toInt64) <<< ((32 : Int32) &&& 0x3f).toInt64) ||| ((r11.toInt64) &&& (4294967295 : Int64)))), .second, .val (.long ((1 : Int64) <<< (r12 &&& 0x3f).toInt64)), .second, .val (.int r13), .unset] [(.long (0 : Int64)), (.long (g r13.toNatClampNeg))])) _
    refine XS.lcmp X15.here hx rfl (hb hby d4_65) rfl ?_
    show Steps p.tables e below (T15.setTop (mkF m 66 #[.val (.ref a1), .val (.int p2), .val (.ref a3), .val (.long q4), .second, .val (.long (r9.toInt64)), .second, .val (.long (((r9.toInt64) <<< ((32 : Int32) &&& 0x3f).toInt64) ||| ((r11.toInt64) &&& (4294967295 : Int64)))), .second, .val (.long ((1 : Int64) <<< (r12 &&& 0x3f).toInt64)), .second, .val (.int r13), .unset] [(.int (lcmpW (g r13.toNatClampNeg) (0 : Int64)))])) _
    refine XS.ifYes X15.here hx rfl (pc0 := 66) (pc' := 117) rfl (hb hby d4_66) rfl ((if0 _ _).trans (feq (fun q => hg0 ((lw_eq _ _).mp q))).2) (by decide) (by decide) ?_
    show Steps p.tables e below (T15.setTop (mkF m 117 #[.val (.ref a1), .val (.int p2), .val (.ref a3), .val (.long q4), .second, .val (.long (r9.toInt64)), .second, .val (.long (((r9.toInt64) <<< ((32 : Int32) &&& 0x3f).toInt64) ||| ((r11.toInt64) &&& (4294967295 : Int64)))), .second, .val (.long ((1 : Int64) <<< (r12 &&& 0x3f).toInt64)), .second, .val (.int r13), .unset] [])) _
    refine XS.aloadN X15.here hx rfl (hb hby d4_117) rfl rfl ?_
    show Steps p.tables e below (T15.setTop (mkF m 118 #[.val (.ref a1), .val (.int p2), .val (.ref a3), .val (.long q4), .second, .val (.long (r9.toInt64)), .second, .val (.long (((r9.toInt64) <<< ((32 : Int32) &&& 0x3f).toInt64) ||| ((r11.toInt64) &&& (4294967295 : Int64)))), .second, .val (.long ((1 : Int64) <<< (r12 &&& 0x3f).toInt64)), .second, .val (.int r13), .unset] [(.ref a1)])) _
    refine st17 _ ?_
    show Steps p.tables e below (T17.setTop (mkF m 121 #[.val (.ref a1), .val (.int p2), .val (.ref a3), .val (.long q4), .second, .val (.long (r9.toInt64)), .second, .val (.long (((r9.toInt64) <<< ((32 : Int32) &&& 0x3f).toInt64) ||| ((r11.toInt64) &&& (4294967295 : Int64)))), .second, .val (.long ((1 : Int64) <<< (r12 &&& 0x3f).toInt64)), .second, .val (.int r13), .unset] [(.ref w14)])) _
    refine XS.iload X17.here hx rfl (hb hby d4_121) rfl ?_
    show Steps p.tables e below (T17.setTop (mkF m 123 #[.val (.ref a1), .val (.int p2), .val (.ref a3), .val (.long q4), .second, .val (.long (r9.toInt64)), .second, .val (.long (((r9.toInt64) <<< ((32 : Int32) &&& 0x3f).toInt64) ||| ((r11.toInt64) &&& (4294967295 : Int64)))), .second, .val (.long ((1 : Int64) <<< (r12 &&& 0x3f).toInt64)), .second, .val (.int r13), .unset] [(.int r13), (.ref w14)])) _
    refine X17.laload hx (j := r13) (v := (.long (g r13.toNatClampNeg))) (by rw [e17]; exact Ar_w14.1) (State.isArrayOf_alike hZ.alike Ar_w14.2.1) Ar_w14.2.2 hin14 hat14 (g := (mkF m 123 #[.val (.ref a1), .val (.int p2), .val (.ref a3), .val (.long q4), .second, .val (.long (r9.toInt64)), .second, .val (.long (((r9.toInt64) <<< ((32 : Int32) &&& 0x3f).toInt64) ||| ((r11.toInt64) &&& (4294967295 : Int64)))), .second, .val (.long ((1 : Int64) <<< (r12 &&& 0x3f).toInt64)), .second, .val (.int r13), .unset] [(.int r13), (.ref w14)])) rfl rfl (hb hby d4_123) _ ?_
    show Steps p.tables e below (T17.setTop (mkF m 124 #[.val (.ref a1), .val (.int p2), .val (.ref a3), .val (.long q4), .second, .val (.long (r9.toInt64)), .second, .val (.long (((r9.toInt64) <<< ((32 : Int32) &&& 0x3f).toInt64) ||| ((r11.toInt64) &&& (4294967295 : Int64)))), .second, .val (.long ((1 : Int64) <<< (r12 &&& 0x3f).toInt64)), .second, .val (.int r13), .unset] [(.long (g r13.toNatClampNeg))])) _
    refine XS.lload X17.here hx rfl (hb hby d4_124) rfl ?_
    show Steps p.tables e below (T17.setTop (mkF m 126 #[.val (.ref a1), .val (.int p2), .val (.ref a3), .val (.long q4), .second, .val (.long (r9.toInt64)), .second, .val (.long (((r9.toInt64) <<< ((32 : Int32) &&& 0x3f).toInt64) ||| ((r11.toInt64) &&& (4294967295 : Int64)))), .second, .val (.long ((1 : Int64) <<< (r12 &&& 0x3f).toInt64)), .second, .val (.int r13), .unset] [(.long ((1 : Int64) <<< (r12 &&& 0x3f).toInt64)), (.long (g r13.toNatClampNeg))])) _
    refine XS.land X17.here hx rfl (hb hby d4_126) rfl ?_
    show Steps p.tables e below (T17.setTop (mkF m 127 #[.val (.ref a1), .val (.int p2), .val (.ref a3), .val (.long q4), .second, .val (.long (r9.toInt64)), .second, .val (.long (((r9.toInt64) <<< ((32 : Int32) &&& 0x3f).toInt64) ||| ((r11.toInt64) &&& (4294967295 : Int64)))), .second, .val (.long ((1 : Int64) <<< (r12 &&& 0x3f).toInt64)), .second, .val (.int r13), .unset] [(.long ((g r13.toNatClampNeg) &&& ((1 : Int64) <<< (r12 &&& 0x3f).toInt64)))])) _
    refine XS.lconst X17.here hx rfl (hb hby d4_127) ?_
    show Steps p.tables e below (T17.setTop (mkF m 128 #[.val (.ref a1), .val (.int p2), .val (.ref a3), .val (.long q4), .second, .val (.long (r9.toInt64)), .second, .val (.long (((r9.toInt64) <<< ((32 : Int32) &&& 0x3f).toInt64) ||| ((r11.toInt64) &&& (4294967295 : Int64)))), .second, .val (.long ((1 : Int64) <<< (r12 &&& 0x3f).toInt64)), .second, .val (.int r13), .unset] [(.long (0 : Int64)), (.long ((g r13.toNatClampNeg) &&& ((1 : Int64) <<< (r12 &&& 0x3f).toInt64)))])) _
    refine XS.lcmp X17.here hx rfl (hb hby d4_128) rfl ?_
    show Steps p.tables e below (T17.setTop (mkF m 129 #[.val (.ref a1), .val (.int p2), .val (.ref a3), .val (.long q4), .second, .val (.long (r9.toInt64)), .second, .val (.long (((r9.toInt64) <<< ((32 : Int32) &&& 0x3f).toInt64) ||| ((r11.toInt64) &&& (4294967295 : Int64)))), .second, .val (.long ((1 : Int64) <<< (r12 &&& 0x3f).toInt64)), .second, .val (.int r13), .unset] [(.int (lcmpW ((g r13.toNatClampNeg) &&& ((1 : Int64) <<< (r12 &&& 0x3f).toInt64)) (0 : Int64)))])) _
    refine XS.ifNo X17.here hx rfl (hb hby d4_129) rfl ((if0 _ _).trans (teq ((lw_eq _ _).mpr hg1)).2) ?_
    show Steps p.tables e below (T17.setTop (mkF m 132 #[.val (.ref a1), .val (.int p2), .val (.ref a3), .val (.long q4), .second, .val (.long (r9.toInt64)), .second, .val (.long (((r9.toInt64) <<< ((32 : Int32) &&& 0x3f).toInt64) ||| ((r11.toInt64) &&& (4294967295 : Int64)))), .second, .val (.long ((1 : Int64) <<< (r12 &&& 0x3f).toInt64)), .second, .val (.int r13), .unset] [])) _
    refine XS.iconst X17.here hx rfl (hb hby d4_132) ?_
    show Steps p.tables e below (T17.setTop (mkF m 133 #[.val (.ref a1), .val (.int p2), .val (.ref a3), .val (.long q4), .second, .val (.long (r9.toInt64)), .second, .val (.long (((r9.toInt64) <<< ((32 : Int32) &&& 0x3f).toInt64) ||| ((r11.toInt64) &&& (4294967295 : Int64)))), .second, .val (.long ((1 : Int64) <<< (r12 &&& 0x3f).toInt64)), .second, .val (.int r13), .unset] [(.int (1 : Int32))])) _
    refine XS.goto X17.here hx rfl (pc0 := 133) (pc' := 137) rfl (hb hby d4_133) (by decide) (by decide) ?_
    show Steps p.tables e below (T17.setTop (mkF m 137 #[.val (.ref a1), .val (.int p2), .val (.ref a3), .val (.long q4), .second, .val (.long (r9.toInt64)), .second, .val (.long (((r9.toInt64) <<< ((32 : Int32) &&& 0x3f).toInt64) ||| ((r11.toInt64) &&& (4294967295 : Int64)))), .second, .val (.long ((1 : Int64) <<< (r12 &&& 0x3f).toInt64)), .second, .val (.int r13), .unset] [(.int (1 : Int32))])) _
    refine XS.istore X17.here hx rfl (hb hby d4_137) rfl (l' := #[.val (.ref a1), .val (.int p2), .val (.ref a3), .val (.long q4), .second, .val (.long (r9.toInt64)), .second, .val (.long (((r9.toInt64) <<< ((32 : Int32) &&& 0x3f).toInt64) ||| ((r11.toInt64) &&& (4294967295 : Int64)))), .second, .val (.long ((1 : Int64) <<< (r12 &&& 0x3f).toInt64)), .second, .val (.int r13), .val (.int (1 : Int32))]) rfl ?_
    show Steps p.tables e below (T17.setTop (mkF m 139 #[.val (.ref a1), .val (.int p2), .val (.ref a3), .val (.long q4), .second, .val (.long (r9.toInt64)), .second, .val (.long (((r9.toInt64) <<< ((32 : Int32) &&& 0x3f).toInt64) ||| ((r11.toInt64) &&& (4294967295 : Int64)))), .second, .val (.long ((1 : Int64) <<< (r12 &&& 0x3f).toInt64)), .second, .val (.int r13), .val (.int (1 : Int32))] [])) _
    refine XS.aloadN X17.here hx rfl (hb hby d4_139) rfl rfl ?_
    show Steps p.tables e below (T17.setTop (mkF m 140 #[.val (.ref a1), .val (.int p2), .val (.ref a3), .val (.long q4), .second, .val (.long (r9.toInt64)), .second, .val (.long (((r9.toInt64) <<< ((32 : Int32) &&& 0x3f).toInt64) ||| ((r11.toInt64) &&& (4294967295 : Int64)))), .second, .val (.long ((1 : Int64) <<< (r12 &&& 0x3f).toInt64)), .second, .val (.int r13), .val (.int (1 : Int32))] [(.ref a1)])) _
    refine st19 _ ?_
    show Steps p.tables e below (T19.setTop (mkF m 143 #[.val (.ref a1), .val (.int p2), .val (.ref a3), .val (.long q4), .second, .val (.long (r9.toInt64)), .second, .val (.long (((r9.toInt64) <<< ((32 : Int32) &&& 0x3f).toInt64) ||| ((r11.toInt64) &&& (4294967295 : Int64)))), .second, .val (.long ((1 : Int64) <<< (r12 &&& 0x3f).toInt64)), .second, .val (.int r13), .val (.int (1 : Int32))] [(.ref w14)])) _
    refine XS.iload X19.here hx rfl (hb hby d4_143) rfl ?_
    show Steps p.tables e below (T19.setTop (mkF m 145 #[.val (.ref a1), .val (.int p2), .val (.ref a3), .val (.long q4), .second, .val (.long (r9.toInt64)), .second, .val (.long (((r9.toInt64) <<< ((32 : Int32) &&& 0x3f).toInt64) ||| ((r11.toInt64) &&& (4294967295 : Int64)))), .second, .val (.long ((1 : Int64) <<< (r12 &&& 0x3f).toInt64)), .second, .val (.int r13), .val (.int (1 : Int32))] [(.int r13), (.ref w14)])) _
    refine Jvm.Free.XT.dup2 X19.here hx rfl (hb hby d4_145) rfl rfl rfl ?_
    show Steps p.tables e below (T19.setTop (mkF m 146 #[.val (.ref a1), .val (.int p2), .val (.ref a3), .val (.long q4), .second, .val (.long (r9.toInt64)), .second, .val (.long (((r9.toInt64) <<< ((32 : Int32) &&& 0x3f).toInt64) ||| ((r11.toInt64) &&& (4294967295 : Int64)))), .second, .val (.long ((1 : Int64) <<< (r12 &&& 0x3f).toInt64)), .second, .val (.int r13), .val (.int (1 : Int32))] [(.int r13), (.ref w14), (.int r13), (.ref w14)])) _
    refine X19.laload hx (j := r13) (v := (.long (g r13.toNatClampNeg))) (by rw [e19]; exact Ar_w14.1) (State.isArrayOf_alike hZ.alike Ar_w14.2.1) Ar_w14.2.2 hin14 hat14 (g := (mkF m 146 #[.val (.ref a1), .val (.int p2), .val (.ref a3), .val (.long q4), .second, .val (.long (r9.toInt64)), .second, .val (.long (((r9.toInt64) <<< ((32 : Int32) &&& 0x3f).toInt64) ||| ((r11.toInt64) &&& (4294967295 : Int64)))), .second, .val (.long ((1 : Int64) <<< (r12 &&& 0x3f).toInt64)), .second, .val (.int r13), .val (.int (1 : Int32))] [(.int r13), (.ref w14), (.int r13), (.ref w14)])) rfl rfl (hb hby d4_146) _ ?_
    show Steps p.tables e below (T19.setTop (mkF m 147 #[.val (.ref a1), .val (.int p2), .val (.ref a3), .val (.long q4), .second, .val (.long (r9.toInt64)), .second, .val (.long (((r9.toInt64) <<< ((32 : Int32) &&& 0x3f).toInt64) ||| ((r11.toInt64) &&& (4294967295 : Int64)))), .second, .val (.long ((1 : Int64) <<< (r12 &&& 0x3f).toInt64)), .second, .val (.int r13), .val (.int (1 : Int32))] [(.long (g r13.toNatClampNeg)), (.int r13), (.ref w14)])) _
    refine XS.lload X19.here hx rfl (hb hby d4_147) rfl ?_
    show Steps p.tables e below (T19.setTop (mkF m 149 #[.val (.ref a1), .val (.int p2), .val (.ref a3), .val (.long q4), .second, .val (.long (r9.toInt64)), .second, .val (.long (((r9.toInt64) <<< ((32 : Int32) &&& 0x3f).toInt64) ||| ((r11.toInt64) &&& (4294967295 : Int64)))), .second, .val (.long ((1 : Int64) <<< (r12 &&& 0x3f).toInt64)), .second, .val (.int r13), .val (.int (1 : Int32))] [(.long ((1 : Int64) <<< (r12 &&& 0x3f).toInt64)), (.long (g r13.toNatClampNeg)), (.int r13), (.ref w14)])) _
    refine XS.lor X19.here hx rfl (hb hby d4_149) rfl ?_
    show Steps p.tables e below (T19.setTop (mkF m 150 #[.val (.ref a1), .val (.int p2), .val (.ref a3), .val (.long q4), .second, .val (.long (r9.toInt64)), .second, .val (.long (((r9.toInt64) <<< ((32 : Int32) &&& 0x3f).toInt64) ||| ((r11.toInt64) &&& (4294967295 : Int64)))), .second, .val (.long ((1 : Int64) <<< (r12 &&& 0x3f).toInt64)), .second, .val (.int r13), .val (.int (1 : Int32))] [(.long ((g r13.toNatClampNeg) ||| ((1 : Int64) <<< (r12 &&& 0x3f).toInt64))), (.int r13), (.ref w14)])) _
    refine st21 _ ?_
    show Steps p.tables e below (T21.setTop (mkF m 151 #[.val (.ref a1), .val (.int p2), .val (.ref a3), .val (.long q4), .second, .val (.long (r9.toInt64)), .second, .val (.long (((r9.toInt64) <<< ((32 : Int32) &&& 0x3f).toInt64) ||| ((r11.toInt64) &&& (4294967295 : Int64)))), .second, .val (.long ((1 : Int64) <<< (r12 &&& 0x3f).toInt64)), .second, .val (.int r13), .val (.int (1 : Int32))] [])) _
    refine XS.iload X21.here hx rfl (hb hby d4_151) rfl ?_
    show Steps p.tables e below (T21.setTop (mkF m 153 #[.val (.ref a1), .val (.int p2), .val (.ref a3), .val (.long q4), .second, .val (.long (r9.toInt64)), .second, .val (.long (((r9.toInt64) <<< ((32 : Int32) &&& 0x3f).toInt64) ||| ((r11.toInt64) &&& (4294967295 : Int64)))), .second, .val (.long ((1 : Int64) <<< (r12 &&& 0x3f).toInt64)), .second, .val (.int r13), .val (.int (1 : Int32))] [(.int (1 : Int32))])) _
    exact retN X21 hx (t := .boolean) Bd.returns (by simp) (hb hby d4_153) hr
  · show own_QA Z a1 w17 w14 h0 n0 (1 : Int32) f (own_upd g r13.toNatClampNeg (g r13.toNatClampNeg ||| ((1 : Int64) <<< (r12 &&& 0x3f).toInt64))) w22 _ T21.heap _
    rw [e21]
    exact ⟨rfl, N21, own_keep1 K21, E_a1.wr W21, F_keys_a1.other W21 (Or.inl hne14), F_words_a1.other W21 (Or.inl hne14), F_size_a1.other W21 (Or.inl hne14), ⟨_, Ar_w17.other W21 hkw, s17, H17⟩, ⟨_, Ar_w14.same W21, own_set s14 H14 _ _⟩, hkw⟩
/-! the callees of add, at a row, a kind and a day within the law's bounds -/
theorem own_M5 (l : Launch) (Z : State) (a0 : Array Value) (hw : ∀ d ∈ tables_1, d.before a0 Z = true) (s : Int32) (h0 : Heap) (n0 : Nat) (Z0 : n0 ≤ h0.size) (hs : 0 ≤ s.toInt ∧ s.toInt < 429496729) : M5 l Z [] s (5 : Int32) h0 n0 (some (.int (((s.toInt64) * ((5 : Int32).toInt64)).toInt32))) := by
  refine rm5 l Z a0 hw [] s 5 h0 n0 Z0 ((lw_eq _ _).mpr (Int64.toInt_inj.mp ?_))
  have h := own_mul_val s hs
  rw [c_i2l, h.1, h.2]
theorem own_M7 (l : Launch) (Z : State) (a0 : Array Value) (hw : ∀ d ∈ tables_1, d.before a0 Z = true) (s o : Int32) (h0 : Heap) (n0 : Nat) (Z0 : n0 ≤ h0.size) (hs : 0 ≤ s.toInt ∧ s.toInt < 429496729) (ho : 0 ≤ o.toInt ∧ o.toInt < 5) : M7 l Z [] (((s.toInt64) * ((5 : Int32).toInt64)).toInt32) o h0 n0 (some (.int (own_row s o))) := by
  have h := (own_mul_val s hs).2
  have h' := own_row_val s o hs ho
  exact rm7 l Z a0 hw [] _ o h0 n0 Z0 (own_add_ok _ _ (by omega) (by omega) (by show 0 ≤ (own_row s o).toInt; omega))
theorem own_M8 (l : Launch) (Z : State) (a0 : Array Value) (hw : ∀ d ∈ tables_1, d.before a0 Z = true) (d : Int64) (h0 : Heap) (n0 : Nat) (Z0 : n0 ≤ h0.size) : M8 l Z [] d (64 : Int32) h0 n0 (some (.long (own_fdiv d))) := by
  refine rm8 l Z a0 hw [] d 64 _ h0 n0 Z0 ?_
  unfold own_fdiv
  by_cases q : d.toInt < 0
  · rw [if_pos q]
    by_cases q2 : (d / ((64 : Int32).toInt64)) * ((64 : Int32).toInt64) = d
    · rw [if_pos q2]
      exact rm9_ft l Z a0 hw [] d _ h0 n0 Z0 (by decide) ((own_xor64 d).mpr q) ((lw_eq _ _).mpr q2)
    · rw [if_neg q2]
      exact rm9_ff l Z a0 hw [] d _ h0 n0 Z0 (by decide) ((own_xor64 d).mpr q) (fun z => q2 ((lw_eq _ _).mp z))
  · rw [if_neg q]
    exact rm9_t l Z a0 hw [] d _ h0 n0 Z0 (by decide) (fun z => q ((own_xor64 d).mp z))
theorem own_M11 (l : Launch) (Z : State) (a0 : Array Value) (hw : ∀ d ∈ tables_1, d.before a0 Z = true) (d : Int64) (h0 : Heap) (n0 : Nat) (Z0 : n0 ≤ h0.size) : M11 l Z [] d (64 : Int32) h0 n0 (some (.int ((own_fmod d).toInt32))) := by
  refine rm11 l Z a0 hw [] d 64 _ h0 n0 Z0 ?_
  unfold own_fmod
  by_cases q : d.toInt < 0
  · rw [if_pos q]
    by_cases q2 : own_lrem d ((64 : Int32).toInt64) = (0 : Int64)
    · rw [if_pos q2]
      exact rm12_ft l Z a0 hw [] d _ h0 n0 Z0 (by decide) ((own_xor64 d).mpr q) ((lw_eq _ _).mpr q2)
    · rw [if_neg q2]
      exact rm12_ff l Z a0 hw [] d _ h0 n0 Z0 (by decide) ((own_xor64 d).mpr q) (fun z => q2 ((lw_eq _ _).mp z))
  · rw [if_neg q]
    exact rm12_t l Z a0 hw [] d _ h0 n0 Z0 (by decide) (fun z => q ((own_xor64 d).mp z))
def own_day (d : Int64) : Prop := -68719476864 ≤ d.toInt ∧ d.toInt ≤ 68719476864
theorem own_fd32 (d : Int64) (hd : own_day d) : ((own_fdiv d).toInt32).toInt = d.toInt / 64 := by
  have h1 := own_fdiv_val d
  have h2 := c_l2i (own_fdiv d)
  have h3 := rng32 ((own_fdiv d).toInt32)
  obtain ⟨h4, h5⟩ := hd
  omega
theorem own_fm32 (d : Int64) : ((own_fmod d).toInt32).toInt = d.toInt % 64 := by
  have h1 := own_fmod_val d
  have h2 := c_l2i (own_fmod d)
  have h3 := rng32 ((own_fmod d).toInt32)
  omega
theorem own_M10 (l : Launch) (Z : State) (a0 : Array Value) (hw : ∀ d ∈ tables_1, d.before a0 Z = true) (d : Int64) (h0 : Heap) (n0 : Nat) (Z0 : n0 ≤ h0.size) (hd : own_day d) : M10 l Z [] (own_fdiv d) h0 n0 (some (.int ((own_fdiv d).toInt32))) := by
  refine rm10 l Z a0 hw [] (own_fdiv d) h0 n0 Z0 ((lw_eq _ _).mpr (Int64.toInt_inj.mp ?_))
  rw [c_i2l, own_fd32 d hd, own_fdiv_val]
def own_K (s o : Int32) (d : Int64) : Int64 := own_key (own_row s o) ((own_fdiv d).toInt32)
def own_B (d : Int64) : Int64 := own_bit ((own_fmod d).toInt32)
theorem own_B_ne (d : Int64) : own_B d ≠ 0 := own_bit_ne (by rw [own_fm32]; omega)
theorem own_B_and (d d' : Int64) : (own_B d &&& own_B d') = 0 ↔ d.toInt % 64 ≠ d'.toInt % 64 := by
  unfold own_B
  rw [own_bit_and (by rw [own_fm32]; omega) (by rw [own_fm32]; omega), own_fm32, own_fm32]
theorem own_K_inj {s s' o o' : Int32} {d d' : Int64} (hs : 0 ≤ s.toInt ∧ s.toInt < 429496729) (hs' : 0 ≤ s'.toInt ∧ s'.toInt < 429496729) (ho : 0 ≤ o.toInt ∧ o.toInt < 5) (ho' : 0 ≤ o'.toInt ∧ o'.toInt < 5) (hd : own_day d) (hd' : own_day d') (h : own_K s o d = own_K s' o' d') : s = s' ∧ o = o' ∧ d.toInt / 64 = d'.toInt / 64 := by
  obtain ⟨q1, q2⟩ := own_key_inj h
  have e1 := own_row_val s o hs ho
  have e2 := own_row_val s' o' hs' ho'
  rw [q1] at e1
  have e3 := own_fd32 d hd
  have e4 := own_fd32 d' hd'
  rw [q2] at e3
  refine ⟨Int32.toInt_inj.mp (by omega), Int32.toInt_inj.mp (by omega), by omega⟩
/-! what the table holds -/
theorem own_or_and (a b c : Int64) (h : ¬ (a &&& c) = 0) : ¬ ((a ||| b) &&& c) = 0 := by
  intro q
  apply h
  apply Int64.toBitVec_inj.mp
  have q' := congrArg Int64.toBitVec q
  have e : ((a.toBitVec ||| b.toBitVec) &&& c.toBitVec) = 0#64 := q'
  show (a.toBitVec &&& c.toBitVec) = 0#64
  apply BitVec.eq_of_getLsbD_eq
  intro i hi
  have z := congrArg (fun v => BitVec.getLsbD v i) e
  simp only [BitVec.getLsbD_and, BitVec.getLsbD_or, BitVec.getLsbD_zero] at z ⊢
  cases ha : a.toBitVec.getLsbD i <;> cases hc : c.toBitVec.getLsbD i <;> simp_all
theorem own_or_and' (a b c : Int64) (h : ¬ (b &&& c) = 0) : ¬ ((a ||| b) &&& c) = 0 := by
  rw [Int64.or_comm]
  exact own_or_and b a c h
theorem own_and_ne {a c : Int64} (h : ¬ (a &&& c) = 0) : ¬ a = 0 := fun q => h (by rw [q]; simp)
/-- the key x lies at i, with the bit b -/
def own_P (f g : Nat → Int64) (x b : Int64) (i : Nat) : Prop := f i = x ∧ ¬ (g i &&& b) = 0
theorem own_P.ne {f g : Nat → Int64} {x b : Int64} {i : Nat} (h : own_P f g x b i) : ¬ g i = 0 := own_and_ne h.2
theorem own_P.old {f g : Nat → Int64} {x b : Int64} {i : Nat} (h : own_P f g x b i) (k : Nat) (c : Int64) : own_P f (own_upd g k (g k ||| c)) x b i := by
  refine ⟨h.1, ?_⟩
  by_cases q : i = k
  · subst q
    rw [own_upd_at]
    exact own_or_and _ _ _ h.2
  · rw [own_upd_ne _ _ q]
    exact h.2
theorem own_P.other {f g : Nat → Int64} {x b : Int64} {i k : Nat} (h : own_P f g x b i) (y c : Int64) (hk : i ≠ k) : own_P (own_upd f k y) (own_upd g k c) x b i := by
  refine ⟨?_, ?_⟩
  · rw [own_upd_ne _ _ hk]; exact h.1
  · rw [own_upd_ne _ _ hk]; exact h.2
theorem own_P_ins (f g : Nat → Int64) (y c : Int64) (k : Nat) (hc : c ≠ 0) : own_P (own_upd f k y) (own_upd g k c) y c k := by
  refine ⟨own_upd_at _ _ _, ?_⟩
  rw [own_upd_at, Int64.and_self]
  exact hc
theorem own_P_self {f g : Nat → Int64} {y c : Int64} {i : Nat} (hf : f i = y) (hc : c ≠ 0) : own_P f (own_upd g i (g i ||| c)) y c i := by
  refine ⟨hf, ?_⟩
  rw [own_upd_at]
  exact own_or_and' _ _ _ (by rw [Int64.and_self]; exact hc)
theorem own_found_hit {f g : Nat → Int64} {x : Int64} (h : f (own_hash x).toNatClampNeg = x) : own_found f g x (own_hash x) := Or.inl ⟨rfl, Or.inr h⟩
theorem own_next_ne (x : Int64) : (own_next (own_hash x)).toNatClampNeg ≠ (own_hash x).toNatClampNeg := by
  have r0 := own_hash_rng x
  have r1 := own_next_val _ r0
  have r2 := own_next_rng _ r0
  exact own_nat_ne r2.1 r0.1 (by omega)
theorem own_hash_ne {x y : Int64} (h : ¬ own_hash x = own_hash y) : (own_hash x).toNatClampNeg ≠ (own_hash y).toNatClampNeg :=
  own_nat_ne (own_hash_rng x).1 (own_hash_rng y).1 (fun q => h (Int32.toInt_inj.mp q))
/-! the law's numbers -/
theorem own_remS (x : Int32) (hx : 0 ≤ x.toInt) : 0 ≤ (own_irem x (429496729 : Int32)).toInt ∧ (own_irem x (429496729 : Int32)).toInt < 429496729 := by
  unfold own_irem
  have h1 := (c_idiv x 429496729 429496729 (by decide) (by decide)).1 hx
  have h2 := c_imul (x / 429496729) 429496729
  have h3 := c_isub x (x / 429496729 * 429496729)
  have h4 := rng32 (x / 429496729 * 429496729)
  have h5 := rng32 (x - x / 429496729 * 429496729)
  have h6 := rng32 x
  rw [h1, show (429496729 : Int32).toInt = 429496729 from by decide] at h2
  omega
theorem own_remK (x : Int32) (hx : 0 ≤ x.toInt) : 0 ≤ (own_irem x (5 : Int32)).toInt ∧ (own_irem x (5 : Int32)).toInt < 5 := by
  unfold own_irem
  have h1 := (c_idiv x 5 5 (by decide) (by decide)).1 hx
  have h2 := c_imul (x / 5) 5
  have h3 := c_isub x (x / 5 * 5)
  have h4 := rng32 (x / 5 * 5)
  have h5 := rng32 (x - x / 5 * 5)
  have h6 := rng32 x
  rw [h1, show (5 : Int32).toInt = 5 from by decide] at h2
  omega
theorem own_shr3 (x : Int32) : 0 ≤ ((x.toUInt32 >>> ((3 : Int32) &&& 31).toUInt32).toInt32).toInt := by
  have h := c_iushr x 3 3 (by decide) (by decide)
  rw [h]
  have e : ((2 ^ 3 : Nat) : Int) = 8 := by decide
  rw [e]
  omega
theorem own_remD (x : Int64) : -68719476736 < (own_lrem x (68719476736 : Int64)).toInt ∧ (own_lrem x (68719476736 : Int64)).toInt < 68719476736 := by
  have h := c_lrem x (68719476736 : Int64) 68719476736 (by decide)
  have h' : (0 ≤ x.toInt → (own_lrem x (68719476736 : Int64)).toInt = x.toInt % 68719476736) ∧ (x.toInt < 0 → (own_lrem x (68719476736 : Int64)).toInt = -((-x.toInt) % 68719476736)) := h
  omega
theorem own_near (d q : Int64) (h : -68719476736 < d.toInt ∧ d.toInt < 68719476736) : own_day (d + ((q &&& (255 : Int64)) - (128 : Int64))) := by
  have h1 := c_maskL q 255 8 (by decide) (by decide)
  have h2 := c_lsub (q &&& 255) 128
  have h3 := c_ladd d ((q &&& 255) - 128)
  have h4 := rng64 ((q &&& 255) - 128)
  have h5 := rng64 (d + ((q &&& 255) - 128))
  have e : ((2 ^ 8 : Nat) : Int) = 256 := by decide
  have e1 : (128 : Int64).toInt = 128 := by decide
  rw [e] at h1
  rw [e1] at h2
  unfold own_day
  omega
theorem own_pos31 (x : Int32) : 0 ≤ (x &&& (2147483647 : Int32)).toInt := (c_and x 2147483647 (by decide)).1
theorem own_five (i : Int32) (h : 0 ≤ i.toInt ∧ i.toInt < 5) : i = 0 ∨ i = 1 ∨ i = 2 ∨ i = 3 ∨ i = 4 := by
  have e0 : (0 : Int32).toInt = 0 := by decide
  have e1 : (1 : Int32).toInt = 1 := by decide
  have e2 : (2 : Int32).toInt = 2 := by decide
  have e3 : (3 : Int32).toInt = 3 := by decide
  have e4 : (4 : Int32).toInt = 4 := by decide
  simp only [← Int32.toInt_inj, e0, e1, e2, e3, e4]
  omega
/-! the five calls of add, in plain words -/
def own_step (f g : Nat → Int64) (n : Int32) (x b : Int64) (r : Int32) (f' g' : Nat → Int64) (n' : Int32) : Prop :=
  ∃ i : Int32, own_found f g x i ∧
    ((r = 1 ∧ g i.toNatClampNeg = 0 ∧ ¬ ((1024 : Int32) < ((2 : Int32) * (n + (1 : Int32)))) ∧ f' = own_upd f i.toNatClampNeg x ∧ g' = own_upd g i.toNatClampNeg b ∧ n' = n + (1 : Int32)) ∨
     (r = 0 ∧ ¬ g i.toNatClampNeg = 0 ∧ ¬ (g i.toNatClampNeg &&& b) = 0 ∧ f' = f ∧ g' = own_upd g i.toNatClampNeg (g i.toNatClampNeg ||| b) ∧ n' = n) ∨
     (r = 1 ∧ ¬ g i.toNatClampNeg = 0 ∧ (g i.toNatClampNeg &&& b) = 0 ∧ f' = f ∧ g' = own_upd g i.toNatClampNeg (g i.toNatClampNeg ||| b) ∧ n' = n))
theorem own_step_old {f g : Nat → Int64} (n : Int32) {x b : Int64} {i : Nat} (ei : i = (own_hash x).toNatClampNeg) (h : own_P f g x b i) : own_step f g n x b 0 f (own_upd g i (g i ||| b)) n := by
  subst ei
  exact ⟨own_hash x, own_found_hit h.1, Or.inr (Or.inl ⟨rfl, h.ne, h.2, rfl, rfl, rfl⟩)⟩
theorem own_step_nxt {f g : Nat → Int64} (n : Int32) {x b : Int64} (h1 : ¬ g (own_hash x).toNatClampNeg = 0) (h2 : ¬ f (own_hash x).toNatClampNeg = x) (h : own_P f g x b (own_next (own_hash x)).toNatClampNeg) : own_step f g n x b 0 f (own_upd g (own_next (own_hash x)).toNatClampNeg (g (own_next (own_hash x)).toNatClampNeg ||| b)) n :=
  ⟨own_next (own_hash x), Or.inr ⟨h1, h2, rfl, Or.inr h.1⟩, Or.inr (Or.inl ⟨rfl, h.ne, h.2, rfl, rfl, rfl⟩)⟩
set_option maxHeartbeats 4000000 in
theorem own_chain (x1 x2 b1 b2 : Int64) (hb1 : b1 ≠ 0) (hb2 : b2 ≠ 0) : ∃ (f1 g1 f2 g2 f3 g3 f4 g4 f5 g5 : Nat → Int64) (m1 m2 m3 m4 m5 : Int32), own_step (fun _ => 0) (fun _ => 0) 0 x1 b1 1 f1 g1 m1 ∧ own_step f1 g1 m1 x1 b1 0 f2 g2 m2 ∧ own_step f2 g2 m2 x2 b2 (if x2 = x1 ∧ ¬ (b1 &&& b2) = 0 then 0 else 1) f3 g3 m3 ∧ own_step f3 g3 m3 x2 b2 0 f4 g4 m4 ∧ own_step f4 g4 m4 x1 b1 0 f5 g5 m5 := by
  obtain ⟨i1, ei⟩ : ∃ i, i = (own_hash x1).toNatClampNeg := ⟨_, rfl⟩
  obtain ⟨f1, ef⟩ : ∃ f, f = own_upd (fun _ => 0) i1 x1 := ⟨_, rfl⟩
  obtain ⟨g1, eg⟩ : ∃ g, g = own_upd (fun _ => 0) i1 b1 := ⟨_, rfl⟩
  obtain ⟨g2, eg2⟩ : ∃ g, g = own_upd g1 i1 (g1 i1 ||| b1) := ⟨_, rfl⟩
  have s1 : own_step (fun _ => 0) (fun _ => 0) 0 x1 b1 1 f1 g1 (0 + 1) := ⟨own_hash x1, Or.inl ⟨rfl, Or.inl rfl⟩, Or.inl ⟨rfl, rfl, by decide, by rw [ef, ei], by rw [eg, ei], rfl⟩⟩
  have p1 : own_P f1 g1 x1 b1 i1 := by rw [ef, eg]; exact own_P_ins _ _ _ _ _ hb1
  have s2 : own_step f1 g1 (0 + 1) x1 b1 0 f1 g2 (0 + 1) := by
    rw [eg2]
    exact own_step_old _ ei p1
  have p2 : own_P f1 g2 x1 b1 i1 := by rw [eg2]; exact p1.old _ _
  have v2 : g2 i1 = b1 := by rw [eg2, own_upd_at, eg, own_upd_at, Int64.or_self]
  have z2 : ∀ k, k ≠ i1 → g2 k = 0 := fun k hk => by rw [eg2, own_upd_ne _ _ hk, eg, own_upd_ne _ _ hk]
  by_cases q : x2 = x1
  · subst q
    by_cases q2 : (b1 &&& b2) = 0
    · rw [if_neg (fun z => z.2 q2)]
      have s3 : own_step f1 g2 (0 + 1) x2 b2 1 f1 (own_upd g2 i1 (g2 i1 ||| b2)) (0 + 1) := ⟨own_hash x2, own_found_hit (by rw [← ei]; exact p2.1), Or.inr (Or.inr ⟨rfl, by rw [← ei]; exact p2.ne, by rw [← ei, v2]; exact q2, rfl, by rw [← ei], rfl⟩)⟩
      have p3 : own_P f1 (own_upd g2 i1 (g2 i1 ||| b2)) x2 b2 i1 := own_P_self p2.1 hb2
      have p3' : own_P f1 (own_upd g2 i1 (g2 i1 ||| b2)) x2 b1 i1 := p2.old _ _
      exact ⟨_, _, _, _, _, _, _, _, _, _, _, _, _, _, _, s1, s2, s3, own_step_old _ ei p3, own_step_old _ ei (p3'.old _ _)⟩
    · rw [if_pos ⟨rfl, q2⟩]
      have p3 : own_P f1 g2 x2 b2 i1 := ⟨p2.1, by rw [v2]; exact q2⟩
      exact ⟨_, _, _, _, _, _, _, _, _, _, _, _, _, _, _, s1, s2, own_step_old _ ei p3, own_step_old _ ei (p3.old _ _), own_step_old _ ei ((p2.old _ _).old _ _)⟩
  · rw [if_neg (fun z => q z.1)]
    by_cases qh : own_hash x2 = own_hash x1
    · have hn : (own_next (own_hash x2)).toNatClampNeg ≠ i1 := by rw [ei, ← qh]; exact own_next_ne x2
      have ej : i1 = (own_hash x2).toNatClampNeg := by rw [ei, qh]
      have fx : ¬ f1 i1 = x2 := fun z => q (z.symm.trans p2.1)
      have s3 : own_step f1 g2 (0 + 1) x2 b2 1 (own_upd f1 (own_next (own_hash x2)).toNatClampNeg x2) (own_upd g2 (own_next (own_hash x2)).toNatClampNeg b2) (0 + 1 + 1) := ⟨own_next (own_hash x2), Or.inr ⟨by rw [← ej]; exact p2.ne, by rw [← ej]; exact fx, rfl, Or.inl (z2 _ hn)⟩, Or.inl ⟨rfl, z2 _ hn, by decide, rfl, rfl, rfl⟩⟩
      have p3 := own_P_ins f1 g2 x2 b2 (own_next (own_hash x2)).toNatClampNeg hb2
      have p3' := p2.other x2 b2 hn.symm
      have hf : ¬ (own_upd f1 (own_next (own_hash x2)).toNatClampNeg x2) (own_hash x2).toNatClampNeg = x2 := by rw [← ej, own_upd_ne _ _ hn.symm]; exact fx
      exact ⟨_, _, _, _, _, _, _, _, _, _, _, _, _, _, _, s1, s2, s3, own_step_nxt _ (by rw [← ej]; exact p3'.ne) hf p3, own_step_old _ ei (p3'.old _ _)⟩
    · have hn : (own_hash x2).toNatClampNeg ≠ i1 := by rw [ei]; exact own_hash_ne qh
      have s3 : own_step f1 g2 (0 + 1) x2 b2 1 (own_upd f1 (own_hash x2).toNatClampNeg x2) (own_upd g2 (own_hash x2).toNatClampNeg b2) (0 + 1 + 1) := ⟨own_hash x2, Or.inl ⟨rfl, Or.inl (z2 _ hn)⟩, Or.inl ⟨rfl, z2 _ hn, by decide, rfl, rfl, rfl⟩⟩
      have p3 := own_P_ins f1 g2 x2 b2 (own_hash x2).toNatClampNeg hb2
      have p3' := p2.other x2 b2 hn.symm
      exact ⟨_, _, _, _, _, _, _, _, _, _, _, _, _, _, _, s1, s2, s3, own_step_old _ rfl p3, own_step_old _ ei (p3'.old _ _)⟩
theorem own_same {s s' o o' : Int32} {d d' : Int64} (hs : 0 ≤ s.toInt ∧ s.toInt < 429496729) (hs' : 0 ≤ s'.toInt ∧ s'.toInt < 429496729) (ho : 0 ≤ o.toInt ∧ o.toInt < 5) (ho' : 0 ≤ o'.toInt ∧ o'.toInt < 5) (hd : own_day d) (hd' : own_day d') : (own_K s' o' d' = own_K s o d ∧ ¬ (own_B d &&& own_B d') = 0) ↔ (s = s' ∧ o = o' ∧ d = d') := by
  constructor
  · rintro ⟨h1, h2⟩
    obtain ⟨e1, e2, e3⟩ := own_K_inj hs' hs ho' ho hd' hd h1
    rw [own_B_and] at h2
    exact ⟨e1.symm, e2.symm, Int64.toInt_inj.mp (by omega)⟩
  · rintro ⟨rfl, rfl, rfl⟩
    exact ⟨rfl, by rw [Int64.and_self]; exact own_B_ne d⟩
abbrev own_MA (l : Launch) (Z : State) (ws : List Jvm.Cond) (a1 ka wa : Addr) (p2 : Int32) (a3 : Addr) (q4 : Int64) (h0 : Heap) (n0 : Nat) (r : Int32) (f g : Nat → Int64) (n : Int32) : Prop := MetFree l (⟨"com/example/crackline/crackline/SeenValues", "add", "(ILcom/example/crackline/crackline/PriceKind;J)Z"⟩ : MethodName) (head1 (Jvm.Cond.code (⟨"com/example/crackline/crackline/SeenValues", "add", "(ILcom/example/crackline/crackline/PriceKind;J)Z"⟩ : MethodName) prog_41_method_2_code 13 (some .boolean) :: ws) ({ frames := 3, cells := 0, slots := 0, locals := 46 } : Room)) (fun a U => a = #[(.ref a1), (.int p2), (.ref a3), (.long q4)] ∧ Z.Warmed39 U.vm ∧ U.heap = h0) (fun _ _ _ _ _ => True) (fun _ U o U' => ∃ v L, o = .returned v ∧ own_QA Z a1 ka wa h0 n0 r f g n v U'.heap L ∧ FrameEnd U o U' L ({ frames := 3, cells := 0, slots := 0, locals := 46 } : Room).cells ({ frames := 3, cells := 0, slots := 0, locals := 46 } : Room).slots)
theorem own_addNew (l : Launch) (Z : State) (a0 : Array Value) (hw : ∀ d ∈ tables_1, d.before a0 Z = true) (v ka wa : Addr) (s : Int32) (k : Addr) (o : Int32) (d : Int64) (n : Int32) (f g : Nat → Int64) (h0 : Heap) (n0 : Nat) (Z0 : n0 ≤ h0.size) (S_KINDS : Sta Z h0 "com/example/crackline/crackline/SeenValues" "KINDS" "I" (.int (5 : Int32))) (E_k : Exa Z h0 k "com/example/crackline/crackline/PriceKind") (F_k : Fld Z h0 k "java/lang/Enum" "ordinal" "I" (.int o)) (hs : 0 ≤ s.toInt ∧ s.toInt < 429496729) (ho : 0 ≤ o.toInt ∧ o.toInt < 5) (hd : own_day d) (HS : own_S Z h0 v ka wa f g n) (gv : n0 ≤ v) (gk : n0 ≤ ka) (gw : n0 ≤ wa) (i : Int32) (hi : own_found f g (own_K s o d) i) (hg : g i.toNatClampNeg = 0) (hsz : ¬ ((1024 : Int32) < ((2 : Int32) * (n + (1 : Int32))))) :
    own_MA l Z [] v ka wa s k d h0 n0 (1 : Int32) (own_upd f i.toNatClampNeg (own_K s o d)) (own_upd g i.toNatClampNeg (own_B d)) (n + (1 : Int32)) :=
  rm4_ft l Z a0 hw [] v s k d 5 _ o _ _ _ _ i wa ka n f g h0 n0 Z0 S_KINDS (own_M5 l Z a0 hw s h0 n0 Z0 hs) (rm6 l Z a0 hw [] k o h0 n0 Z0 F_k) E_k (own_M7 l Z a0 hw s o h0 n0 Z0 hs ho) (own_M8 l Z a0 hw d h0 n0 Z0) (own_M10 l Z a0 hw d h0 n0 Z0 hd) (own_M11 l Z a0 hw d h0 n0 Z0) (own_slot l Z a0 hw v ka wa _ f g n h0 n0 Z0 HS i hi) HS (own_found_rng hi) gv gk gw hg hsz
theorem own_addOld (l : Launch) (Z : State) (a0 : Array Value) (hw : ∀ d ∈ tables_1, d.before a0 Z = true) (v ka wa : Addr) (s : Int32) (k : Addr) (o : Int32) (d : Int64) (n : Int32) (f g : Nat → Int64) (h0 : Heap) (n0 : Nat) (Z0 : n0 ≤ h0.size) (S_KINDS : Sta Z h0 "com/example/crackline/crackline/SeenValues" "KINDS" "I" (.int (5 : Int32))) (E_k : Exa Z h0 k "com/example/crackline/crackline/PriceKind") (F_k : Fld Z h0 k "java/lang/Enum" "ordinal" "I" (.int o)) (hs : 0 ≤ s.toInt ∧ s.toInt < 429496729) (ho : 0 ≤ o.toInt ∧ o.toInt < 5) (hd : own_day d) (HS : own_S Z h0 v ka wa f g n) (gv : n0 ≤ v) (gk : n0 ≤ ka) (gw : n0 ≤ wa) (i : Int32) (hi : own_found f g (own_K s o d) i) (hg : ¬ g i.toNatClampNeg = 0) (hg1 : ¬ (g i.toNatClampNeg &&& own_B d) = 0) :
    own_MA l Z [] v ka wa s k d h0 n0 (0 : Int32) f (own_upd g i.toNatClampNeg (g i.toNatClampNeg ||| own_B d)) n :=
  rm4_tt l Z a0 hw [] v s k d 5 _ o _ _ _ _ i wa ka n f g h0 n0 Z0 S_KINDS (own_M5 l Z a0 hw s h0 n0 Z0 hs) (rm6 l Z a0 hw [] k o h0 n0 Z0 F_k) E_k (own_M7 l Z a0 hw s o h0 n0 Z0 hs ho) (own_M8 l Z a0 hw d h0 n0 Z0) (own_M10 l Z a0 hw d h0 n0 Z0 hd) (own_M11 l Z a0 hw d h0 n0 Z0) (own_slot l Z a0 hw v ka wa _ f g n h0 n0 Z0 HS i hi) HS (own_found_rng hi) gv gk gw hg hg1
theorem own_addBit (l : Launch) (Z : State) (a0 : Array Value) (hw : ∀ d ∈ tables_1, d.before a0 Z = true) (v ka wa : Addr) (s : Int32) (k : Addr) (o : Int32) (d : Int64) (n : Int32) (f g : Nat → Int64) (h0 : Heap) (n0 : Nat) (Z0 : n0 ≤ h0.size) (S_KINDS : Sta Z h0 "com/example/crackline/crackline/SeenValues" "KINDS" "I" (.int (5 : Int32))) (E_k : Exa Z h0 k "com/example/crackline/crackline/PriceKind") (F_k : Fld Z h0 k "java/lang/Enum" "ordinal" "I" (.int o)) (hs : 0 ≤ s.toInt ∧ s.toInt < 429496729) (ho : 0 ≤ o.toInt ∧ o.toInt < 5) (hd : own_day d) (HS : own_S Z h0 v ka wa f g n) (gv : n0 ≤ v) (gk : n0 ≤ ka) (gw : n0 ≤ wa) (i : Int32) (hi : own_found f g (own_K s o d) i) (hg : ¬ g i.toNatClampNeg = 0) (hg1 : (g i.toNatClampNeg &&& own_B d) = 0) :
    own_MA l Z [] v ka wa s k d h0 n0 (1 : Int32) f (own_upd g i.toNatClampNeg (g i.toNatClampNeg ||| own_B d)) n :=
  rm4_tf l Z a0 hw [] v s k d 5 _ o _ _ _ _ i wa ka n f g h0 n0 Z0 S_KINDS (own_M5 l Z a0 hw s h0 n0 Z0 hs) (rm6 l Z a0 hw [] k o h0 n0 Z0 F_k) E_k (own_M7 l Z a0 hw s o h0 n0 Z0 hs ho) (own_M8 l Z a0 hw d h0 n0 Z0) (own_M10 l Z a0 hw d h0 n0 Z0 hd) (own_M11 l Z a0 hw d h0 n0 Z0) (own_slot l Z a0 hw v ka wa _ f g n h0 n0 Z0 HS i hi) HS (own_found_rng hi) gv gk gw hg hg1
theorem d2_0 : decode prog_41_method_1_code 0 = .ok (.aload_n 0, 1) := by decide +kernel
theorem d2_1 : decode prog_41_method_1_code 1 = .ok (.invokespecial 3, 3) := by decide +kernel
theorem d2_4 : decode prog_41_method_1_code 4 = .ok (.aload_n 0, 1) := by decide +kernel
theorem d2_5 : decode prog_41_method_1_code 5 = .ok (.sipush 1024, 3) := by decide +kernel
theorem d2_8 : decode prog_41_method_1_code 8 = .ok (.newarray .long, 2) := by decide +kernel
theorem d2_10 : decode prog_41_method_1_code 10 = .ok (.putfield 9, 3) := by decide +kernel
theorem d2_13 : decode prog_41_method_1_code 13 = .ok (.aload_n 0, 1) := by decide +kernel
theorem d2_14 : decode prog_41_method_1_code 14 = .ok (.aload_n 0, 1) := by decide +kernel
theorem d2_15 : decode prog_41_method_1_code 15 = .ok (.getfield 9, 3) := by decide +kernel
theorem d2_18 : decode prog_41_method_1_code 18 = .ok (.arraylength, 1) := by decide +kernel
theorem d2_19 : decode prog_41_method_1_code 19 = .ok (.newarray .long, 2) := by decide +kernel
theorem d2_21 : decode prog_41_method_1_code 21 = .ok (.putfield 15, 3) := by decide +kernel
theorem d2_24 : decode prog_41_method_1_code 24 = .ok (.return_, 1) := by decide +kernel
theorem pn_2 : plainName "com/example/crackline/crackline/SeenValues" = true := by first | (simp [plainName, overriddenIn]; done) | decide +kernel
theorem ef_2 (m : MethodId) (x0 : Addr) : entryFrame m #[(.ref x0)] 1 = mkF m 0 #[.val (.ref x0)] [] := by first | (simp [entryFrame, mkF, argsToLocals, Value.category]; done) | rfl
theorem own_L_of {Z : State} {h : Heap} {a : Addr} {k : ClassId} (V : Arv Z h a k .long (1024 : Int32) [] (defaultValue .long)) : own_L Z h a (fun _ => 0) := by
  obtain ⟨c, A, -, s, -, H, -⟩ := V
  have s' : c.slots.size = 1024 := s.trans (by decide)
  exact ⟨c, A, s', fun k hk => by have := H k (by omega); simpa [defaultValue] using this⟩
def own_QI (Z : State) (a1 : Addr) (h0 : Heap) (n0 : Nat) (v : Option Value) (h : Heap) (L : List Loc) : Prop := v = none ∧ Fr n0 L ∧ Keep h0 h [a1] ∧ ∃ ka wa : Addr, n0 ≤ ka ∧ n0 ≤ wa ∧ h0.size ≤ ka ∧ h0.size ≤ wa ∧ own_S Z h a1 ka wa (fun _ => 0) (fun _ => 0) (0 : Int32)
theorem own_ext {h0 h : Heap} (K : Keep h0 h []) : Ext h0 h := ⟨K.1, fun a c q => K.2.1 a c q nin0⟩
set_option maxRecDepth 65536 in
set_option maxHeartbeats 40000000 in
theorem rm2 (l : Launch) (Z : State) (a0 : Array Value) (hw : ∀ d ∈ tables_1, d.before a0 Z = true) (ws : List Jvm.Cond) (a1 : Addr) (u_keys_a1 : Value) (u_words_a1 : Value) (h0 : Heap) (n0 : Nat) (Z0 : n0 ≤ h0.size) (F_size_a1 : Fld Z h0 a1 "com/example/crackline/crackline/SeenValues" "size" "I" (.int (0 : Int32))) (E_a1 : Exa Z h0 a1 "com/example/crackline/crackline/SeenValues") (F_keys_a1 : Fld Z h0 a1 "com/example/crackline/crackline/SeenValues" "keys" "[J" u_keys_a1) (g_a1 : n0 ≤ a1) (F_words_a1 : Fld Z h0 a1 "com/example/crackline/crackline/SeenValues" "words" "[J" u_words_a1) :
    MetFree l (⟨"com/example/crackline/crackline/SeenValues", "<init>", "()V"⟩ : MethodName) (head1 (Jvm.Cond.code (⟨"com/example/crackline/crackline/SeenValues", "<init>", "()V"⟩ : MethodName) prog_41_method_1_code 1 none :: ws) ({ frames := 1, cells := 2, slots := 2048, locals := 12 } : Room)) (fun a U => a = #[(.ref a1)] ∧ Z.Warmed39 U.vm ∧ U.heap = h0) (fun _ _ _ _ _ => True) (fun _ U o U' => ∃ v L, o = .returned v ∧ own_QI Z a1 h0 n0 v U'.heap L ∧ FrameEnd U o U' L ({ frames := 1, cells := 2, slots := 2048, locals := 12 } : Room).cells ({ frames := 1, cells := 2, slots := 2048, locals := 12 } : Room).slots) := by
  refine MetFree.of_bodySF (plainFor_of_name pn_2) hisR ?_
  intro p e s m args below meth c s₁ Bd hml0 hP hK
  obtain ⟨rfl, hZ, hh⟩ := hP
  have hx := Bd.exec
  have hby := Bd.bytes
  have hml : c.maxLocals = 1 := hml0
  have hown : s.vm.findClass "com/example/crackline/crackline/SeenValues" = some m.cls := findClass_of_methodNamed Bd.named
  have hnm := (name_of_methodNamed Bd.named Bd.method).1
  have X0 : Stand p l e ({ frames := 1, cells := 2, slots := 2048, locals := 12 } : Room) s m #[(.ref a1)] below meth c s₁ [] 0 0 := Stand.of_body Bd
  have e0 : s₁.heap = h0 := by rw [← hh, Bd.state]; rfl
  have N0 := Fr.nil n0
  have pre0 : ∀ t, Steps p.tables e below (s₁.setTop (mkF m 0 #[.val (.ref a1)] [])) t → Steps p.tables e below (s₁.setTop (entryFrame m #[(.ref a1)] 1)) t := fun t k => castTop (ef_2 m a1) k
  obtain ⟨T2, X2, e2, st2⟩ := initO X0 hx hZ hown (hw _ (List.mem_of_getElem? (i := 16) rfl)) (hw _ (List.mem_of_getElem? (i := 17) rfl)) (hw _ (List.mem_of_getElem? (i := 18) rfl)) e0 (g := (mkF m 1 #[.val (.ref a1)] [(.ref a1)])) rfl (by rw [hml]; rfl) rfl (hb hby d2_1) (by decide) (W := 0) (by show 2 * 0 + _ ≤ _; exact Nat.le_of_eq rfl) (by decide)
  obtain ⟨T3, h3, k3, X3, e3, E3, A3, st3⟩ := newP X2 hx hZ (hw _ (List.mem_of_getElem? (i := 19) rfl)) e2 (g := (mkF m 8 #[.val (.ref a1)] [(.int (1024 : Int32)), (.ref a1)])) rfl (hb hby d2_8) rfl (by decide) (cap := 1024) (by decide) (by decide) (by decide) (by decide)
  obtain ⟨b3, g3⟩ : ∃ z, z = h0.size := ⟨_, rfl⟩
  rw [← g3] at A3 st3
  have V_b3 := Arv.new A3 (by decide)
  have g_b3 : n0 ≤ b3 := Nat.le_trans Z0 (Nat.le_of_eq g3.symm)
  have sz_b3 : h0.size ≤ b3 := (Nat.le_trans (Keep.refl h0 [a1]).1 (Nat.le_of_eq g3.symm))
  have K3 : Keep h0 h3 [a1] := (Keep.refl h0 [a1]).ext E3
  obtain ⟨T4, h4, X4, e4, W4, st4⟩ := putF X3 hx hZ hown (host := "") (Or.inl (hw _ (List.mem_of_getElem? (i := 20) rfl))) Via.refl e3 (F_keys_a1.ext E3) (E_a1.ext E3) (Or.inl (hw _ (List.mem_of_getElem? (i := 21) rfl))) (hw _ (List.mem_of_getElem? (i := 11) rfl)) (ty := (.array .long)) (by decide) rfl rfl (g := (mkF m 10 #[.val (.ref a1)] [(.ref b3), (.ref a1)])) rfl rfl (hb hby d2_10)
  have Fw4 := (F_keys_a1.ext E3).same W4
  have K4 : Keep h0 h4 [a1] := K3.wr W4 (Or.inl (List.mem_of_getElem? (i := 0) rfl))
  have N4 := Fr.snoc X4 N0 g_a1
  obtain ⟨T5, X5, e5, st5⟩ := getF X4 hx hZ hown (host := "") (Or.inl (hw _ (List.mem_of_getElem? (i := 20) rfl))) Via.refl e4 Fw4 (g := (mkF m 15 #[.val (.ref a1)] [(.ref a1), (.ref a1)])) rfl rfl (hb hby d2_15)
  obtain ⟨cl_b3_18, Ar_b3, -, S_b3, N_b3, -, -⟩ := (V_b3.other W4 (Ne.symm (Nat.ne_of_lt (Nat.lt_of_lt_of_le F_size_a1.lt (Nat.le_of_eq g3.symm)))))
  obtain ⟨T6, h6, k6, X6, e6, E6, A6, st6⟩ := newP X5 hx hZ (hw _ (List.mem_of_getElem? (i := 19) rfl)) e5 (g := (mkF m 19 #[.val (.ref a1)] [(.int (1024 : Int32)), (.ref a1)])) rfl (hb hby d2_19) rfl (by decide) (cap := 1024) (by decide) (by decide) (by decide) (by decide)
  obtain ⟨b6, g6⟩ : ∃ z, z = h4.size := ⟨_, rfl⟩
  rw [← g6] at A6 st6
  have V_b6 := Arv.new A6 (by decide)
  have g_b6 : n0 ≤ b6 := Nat.le_trans (Nat.le_trans (Nat.le_trans Z0 E3.1) (Keep.of_wr W4).1) (Nat.le_of_eq g6.symm)
  have sz_b6 : h0.size ≤ b6 := (Nat.le_trans K4.1 (Nat.le_of_eq g6.symm))
  have K6 : Keep h0 h6 [a1] := K4.ext E6
  obtain ⟨T7, h7, X7, e7, W7, st7⟩ := putF X6 hx hZ hown (host := "") (Or.inl (hw _ (List.mem_of_getElem? (i := 22) rfl))) Via.refl e6 (((F_words_a1.ext E3).other W4 (Or.inr (slot_ne (Or.inl (hw _ (List.mem_of_getElem? (i := 23) rfl))) (Or.inl (hw _ (List.mem_of_getElem? (i := 21) rfl))) (by decide) (t := (.array .long)) (t' := (.array .long)) (by decide) (by decide)))).ext E6) (((E_a1.ext E3).wr W4).ext E6) (Or.inl (hw _ (List.mem_of_getElem? (i := 23) rfl))) (hw _ (List.mem_of_getElem? (i := 11) rfl)) (ty := (.array .long)) (by decide) rfl rfl (g := (mkF m 21 #[.val (.ref a1)] [(.ref b6), (.ref a1)])) rfl rfl (hb hby d2_21)
  have Fw7 := (((F_words_a1.ext E3).other W4 (Or.inr (slot_ne (Or.inl (hw _ (List.mem_of_getElem? (i := 23) rfl))) (Or.inl (hw _ (List.mem_of_getElem? (i := 21) rfl))) (by decide) (t := (.array .long)) (t' := (.array .long)) (by decide) (by decide)))).ext E6).same W7
  have K7 : Keep h0 h7 [a1] := K6.wr W7 (Or.inl (List.mem_of_getElem? (i := 0) rfl))
  have N7 := Fr.snoc X7 N4 g_a1
  obtain ⟨fs, hr, hrun, hended, hW, hsame⟩ := X7.leave (v := none) (fun _ => rfl)
  refine ⟨_, _, pre0 _ ?_, hrun, hended, _, _, rfl, ?_, ⟨_, rfl⟩, hW, hsame.mono (by decide) (by decide)⟩
  · show Steps p.tables e below (s₁.setTop (mkF m 0 #[.val (.ref a1)] [])) _
    refine XS.aloadN X0.here hx rfl (hb hby d2_0) rfl rfl ?_
    show Steps p.tables e below (s₁.setTop (mkF m 1 #[.val (.ref a1)] [(.ref a1)])) _
    refine st2 _ ?_
    show Steps p.tables e below (T2.setTop (mkF m 4 #[.val (.ref a1)] [])) _
    refine XS.aloadN X2.here hx rfl (hb hby d2_4) rfl rfl ?_
    show Steps p.tables e below (T2.setTop (mkF m 5 #[.val (.ref a1)] [(.ref a1)])) _
    refine XS.sipush X2.here hx rfl (hb hby d2_5) ?_
    show Steps p.tables e below (T2.setTop (mkF m 8 #[.val (.ref a1)] [(.int (1024 : Int32)), (.ref a1)])) _
    refine st3 _ ?_
    show Steps p.tables e below (T3.setTop (mkF m 10 #[.val (.ref a1)] [(.ref b3), (.ref a1)])) _
    refine st4 _ ?_
    show Steps p.tables e below (T4.setTop (mkF m 13 #[.val (.ref a1)] [])) _
    refine XS.aloadN X4.here hx rfl (hb hby d2_13) rfl rfl ?_
    show Steps p.tables e below (T4.setTop (mkF m 14 #[.val (.ref a1)] [(.ref a1)])) _
    refine XS.aloadN X4.here hx rfl (hb hby d2_14) rfl rfl ?_
    show Steps p.tables e below (T4.setTop (mkF m 15 #[.val (.ref a1)] [(.ref a1), (.ref a1)])) _
    refine st5 _ ?_
    show Steps p.tables e below (T5.setTop (mkF m 18 #[.val (.ref a1)] [(.ref b3), (.ref a1)])) _
    refine X5.arraylength hx (by rw [e5]; exact Ar_b3.1) (State.isArrayOf_alike hZ.alike Ar_b3.2.1) (g := (mkF m 18 #[.val (.ref a1)] [(.ref b3), (.ref a1)])) rfl rfl (hb hby d2_18) _ ?_
    rw [len_of S_b3 N_b3]
    show Steps p.tables e below (T5.setTop (mkF m 19 #[.val (.ref a1)] [(.int (1024 : Int32)), (.ref a1)])) _
    refine st6 _ ?_
    show Steps p.tables e below (T6.setTop (mkF m 21 #[.val (.ref a1)] [(.ref b6), (.ref a1)])) _
    refine st7 _ ?_
    show Steps p.tables e below (T7.setTop (mkF m 24 #[.val (.ref a1)] [])) _
    exact X7.returnOut hx Bd.returns (hb hby d2_24) hr
  · show own_QI Z a1 h0 n0 _ T7.heap _
    rw [e7]
    have ne3 : b3 ≠ a1 := Nat.ne_of_gt (Nat.lt_of_lt_of_le E_a1.lt (Nat.le_of_eq g3.symm))
    have ne6 : b6 ≠ a1 := Nat.ne_of_gt (Nat.lt_of_lt_of_le E_a1.lt sz_b6)
    have V3 := V_b3.other W4 ne3
    have ne36 : b3 ≠ b6 := Nat.ne_of_lt (Nat.lt_of_lt_of_le V3.lt (Nat.le_of_eq g6.symm))
    exact ⟨rfl, N7, K7, b3, b6, g_b3, g_b6, sz_b3, sz_b6, ((((E_a1.ext E3).wr W4).ext E6).wr W7), (Fw4.ext E6).other W7 (Or.inr (slot_ne (Or.inl (hw _ (List.mem_of_getElem? (i := 21) rfl))) (Or.inl (hw _ (List.mem_of_getElem? (i := 23) rfl))) (by decide) (t := (.array .long)) (t' := (.array .long)) (by decide) (by decide))), Fw7, (((F_size_a1.ext E3).other W4 (Or.inr (slot_ne (Or.inl (hw _ (List.mem_of_getElem? (i := 78) rfl))) (Or.inl (hw _ (List.mem_of_getElem? (i := 21) rfl))) (by decide) (t := .int) (t' := (.array .long)) (by decide) (by decide)))).ext E6).other W7 (Or.inr (slot_ne (Or.inl (hw _ (List.mem_of_getElem? (i := 78) rfl))) (Or.inl (hw _ (List.mem_of_getElem? (i := 23) rfl))) (by decide) (t := .int) (t' := (.array .long)) (by decide) (by decide))), own_L_of ((V3.ext E6).other W7 ne3), own_L_of (V_b6.other W7 ne6), ne36⟩
set_option maxRecDepth 65536 in
set_option maxHeartbeats 40000000 in
theorem tn_0_t {p : Program} {l : Launch} {e : Env} {R : Room} {s : State} {m : MethodId} {args : Array Value} {below : List Frame} {meth : Method} {c : Code} {T0 : State} {locs : List Loc} {cells slots : Nat} {Z : State} {a0 : Array Value} {h0 : Heap} (p1 : Int32) (p2 : Int32) (q3 : Int64) (p4 : Int32) (p5 : Int32) (q6 : Int64)
    (X0 : Stand p l e R s m args below meth c T0 locs cells slots) (hx : p.tables.exec = Jvm.exec) (hZ : Z.Warmed39 s.vm) (hw : ∀ d ∈ tables_1, d.before a0 Z = true) (hby : c.code = code) (hml : c.maxLocals = 28) (hown : s.vm.findClass "com/example/crackline/crackline/SeenValuesAddPinLaw" = some m.cls) (e0 : T0.heap = h0) (hc28 : (p5 &&& (1 : Int32)) = (0 : Int32)) :
    ∃ (T' : State), Stand p l e R s m args below meth c T' locs cells slots ∧ T'.heap = h0 ∧
      ∀ target, Steps p.tables e below (T'.setTop (mkF m 38 #[.val (.int p1), .val (.int p2), .val (.long q3), .second, .val (.int p4), .val (.int p5), .val (.long q6), .second, .val (.int (own_irem (p1 &&& (2147483647 : Int32)) (429496729 : Int32))), .val (.int (own_irem (p2 &&& (2147483647 : Int32)) (5 : Int32))), .val (.long (own_lrem q3 (68719476736 : Int64))), .second, .val (.int (0 : Int32)), .unset, .unset, .unset, .unset, .unset, .unset, .unset, .unset, .unset, .unset, .unset, .unset, .unset, .unset, .unset] [])) target → Steps p.tables e below (T0.setTop (mkF m 0 #[.val (.int p1), .val (.int p2), .val (.long q3), .second, .val (.int p4), .val (.int p5), .val (.long q6), .second, .unset, .unset, .unset, .unset, .unset, .unset, .unset, .unset, .unset, .unset, .unset, .unset, .unset, .unset, .unset, .unset, .unset, .unset, .unset, .unset] [])) target := by
  refine ⟨T0, X0, e0, fun target kt => ?_⟩
  show Steps p.tables e below (T0.setTop (mkF m 0 #[.val (.int p1), .val (.int p2), .val (.long q3), .second, .val (.int p4), .val (.int p5), .val (.long q6), .second, .unset, .unset, .unset, .unset, .unset, .unset, .unset, .unset, .unset, .unset, .unset, .unset, .unset, .unset, .unset, .unset, .unset, .unset, .unset, .unset] [])) _
  refine XS.iloadN X0.here hx rfl (hb hby at_0) rfl ?_
  show Steps p.tables e below (T0.setTop (mkF m 1 #[.val (.int p1), .val (.int p2), .val (.long q3), .second, .val (.int p4), .val (.int p5), .val (.long q6), .second, .unset, .unset, .unset, .unset, .unset, .unset, .unset, .unset, .unset, .unset, .unset, .unset, .unset, .unset, .unset, .unset, .unset, .unset, .unset, .unset] [(.int p1)])) _
  refine X0.ldcInt hx hown (mvT hZ (hw _ (List.mem_of_getElem? (i := 0) rfl))) (g := (mkF m 1 #[.val (.int p1), .val (.int p2), .val (.long q3), .second, .val (.int p4), .val (.int p5), .val (.long q6), .second, .unset, .unset, .unset, .unset, .unset, .unset, .unset, .unset, .unset, .unset, .unset, .unset, .unset, .unset, .unset, .unset, .unset, .unset, .unset, .unset] [(.int p1)])) rfl (hb hby at_1) _ ?_
  show Steps p.tables e below (T0.setTop (mkF m 3 #[.val (.int p1), .val (.int p2), .val (.long q3), .second, .val (.int p4), .val (.int p5), .val (.long q6), .second, .unset, .unset, .unset, .unset, .unset, .unset, .unset, .unset, .unset, .unset, .unset, .unset, .unset, .unset, .unset, .unset, .unset, .unset, .unset, .unset] [(.int (2147483647 : Int32)), (.int p1)])) _
  refine XS.iand X0.here hx rfl (hb hby at_3) rfl ?_
  show Steps p.tables e below (T0.setTop (mkF m 4 #[.val (.int p1), .val (.int p2), .val (.long q3), .second, .val (.int p4), .val (.int p5), .val (.long q6), .second, .unset, .unset, .unset, .unset, .unset, .unset, .unset, .unset, .unset, .unset, .unset, .unset, .unset, .unset, .unset, .unset, .unset, .unset, .unset, .unset] [(.int (p1 &&& (2147483647 : Int32)))])) _
  refine X0.ldcInt hx hown (mvT hZ (hw _ (List.mem_of_getElem? (i := 1) rfl))) (g := (mkF m 4 #[.val (.int p1), .val (.int p2), .val (.long q3), .second, .val (.int p4), .val (.int p5), .val (.long q6), .second, .unset, .unset, .unset, .unset, .unset, .unset, .unset, .unset, .unset, .unset, .unset, .unset, .unset, .unset, .unset, .unset, .unset, .unset, .unset, .unset] [(.int (p1 &&& (2147483647 : Int32)))])) rfl (hb hby at_4) _ ?_
  show Steps p.tables e below (T0.setTop (mkF m 6 #[.val (.int p1), .val (.int p2), .val (.long q3), .second, .val (.int p4), .val (.int p5), .val (.long q6), .second, .unset, .unset, .unset, .unset, .unset, .unset, .unset, .unset, .unset, .unset, .unset, .unset, .unset, .unset, .unset, .unset, .unset, .unset, .unset, .unset] [(.int (429496729 : Int32)), (.int (p1 &&& (2147483647 : Int32)))])) _
  refine XS.irem X0.here hx rfl (hb hby at_6) rfl (by decide) ?_
  show Steps p.tables e below (T0.setTop (mkF m 7 #[.val (.int p1), .val (.int p2), .val (.long q3), .second, .val (.int p4), .val (.int p5), .val (.long q6), .second, .unset, .unset, .unset, .unset, .unset, .unset, .unset, .unset, .unset, .unset, .unset, .unset, .unset, .unset, .unset, .unset, .unset, .unset, .unset, .unset] [(.int (own_irem (p1 &&& (2147483647 : Int32)) (429496729 : Int32)))])) _
  refine XS.istore X0.here hx rfl (hb hby at_7) rfl (l' := #[.val (.int p1), .val (.int p2), .val (.long q3), .second, .val (.int p4), .val (.int p5), .val (.long q6), .second, .val (.int (own_irem (p1 &&& (2147483647 : Int32)) (429496729 : Int32))), .unset, .unset, .unset, .unset, .unset, .unset, .unset, .unset, .unset, .unset, .unset, .unset, .unset, .unset, .unset, .unset, .unset, .unset, .unset]) rfl ?_
  show Steps p.tables e below (T0.setTop (mkF m 9 #[.val (.int p1), .val (.int p2), .val (.long q3), .second, .val (.int p4), .val (.int p5), .val (.long q6), .second, .val (.int (own_irem (p1 &&& (2147483647 : Int32)) (429496729 : Int32))), .unset, .unset, .unset, .unset, .unset, .unset, .unset, .unset, .unset, .unset, .unset, .unset, .unset, .unset, .unset, .unset, .unset, .unset, .unset] [])) _
  refine XS.iloadN X0.here hx rfl (hb hby at_9) rfl ?_
  show Steps p.tables e below (T0.setTop (mkF m 10 #[.val (.int p1), .val (.int p2), .val (.long q3), .second, .val (.int p4), .val (.int p5), .val (.long q6), .second, .val (.int (own_irem (p1 &&& (2147483647 : Int32)) (429496729 : Int32))), .unset, .unset, .unset, .unset, .unset, .unset, .unset, .unset, .unset, .unset, .unset, .unset, .unset, .unset, .unset, .unset, .unset, .unset, .unset] [(.int p2)])) _
  refine X0.ldcInt hx hown (mvT hZ (hw _ (List.mem_of_getElem? (i := 0) rfl))) (g := (mkF m 10 #[.val (.int p1), .val (.int p2), .val (.long q3), .second, .val (.int p4), .val (.int p5), .val (.long q6), .second, .val (.int (own_irem (p1 &&& (2147483647 : Int32)) (429496729 : Int32))), .unset, .unset, .unset, .unset, .unset, .unset, .unset, .unset, .unset, .unset, .unset, .unset, .unset, .unset, .unset, .unset, .unset, .unset, .unset] [(.int p2)])) rfl (hb hby at_10) _ ?_
  show Steps p.tables e below (T0.setTop (mkF m 12 #[.val (.int p1), .val (.int p2), .val (.long q3), .second, .val (.int p4), .val (.int p5), .val (.long q6), .second, .val (.int (own_irem (p1 &&& (2147483647 : Int32)) (429496729 : Int32))), .unset, .unset, .unset, .unset, .unset, .unset, .unset, .unset, .unset, .unset, .unset, .unset, .unset, .unset, .unset, .unset, .unset, .unset, .unset] [(.int (2147483647 : Int32)), (.int p2)])) _
  refine XS.iand X0.here hx rfl (hb hby at_12) rfl ?_
  show Steps p.tables e below (T0.setTop (mkF m 13 #[.val (.int p1), .val (.int p2), .val (.long q3), .second, .val (.int p4), .val (.int p5), .val (.long q6), .second, .val (.int (own_irem (p1 &&& (2147483647 : Int32)) (429496729 : Int32))), .unset, .unset, .unset, .unset, .unset, .unset, .unset, .unset, .unset, .unset, .unset, .unset, .unset, .unset, .unset, .unset, .unset, .unset, .unset] [(.int (p2 &&& (2147483647 : Int32)))])) _
  refine XS.iconst X0.here hx rfl (hb hby at_13) ?_
  show Steps p.tables e below (T0.setTop (mkF m 14 #[.val (.int p1), .val (.int p2), .val (.long q3), .second, .val (.int p4), .val (.int p5), .val (.long q6), .second, .val (.int (own_irem (p1 &&& (2147483647 : Int32)) (429496729 : Int32))), .unset, .unset, .unset, .unset, .unset, .unset, .unset, .unset, .unset, .unset, .unset, .unset, .unset, .unset, .unset, .unset, .unset, .unset, .unset] [(.int (5 : Int32)), (.int (p2 &&& (2147483647 : Int32)))])) _
  refine XS.irem X0.here hx rfl (hb hby at_14) rfl (by decide) ?_
  show Steps p.tables e below (T0.setTop (mkF m 15 #[.val (.int p1), .val (.int p2), .val (.long q3), .second, .val (.int p4), .val (.int p5), .val (.long q6), .second, .val (.int (own_irem (p1 &&& (2147483647 : Int32)) (429496729 : Int32))), .unset, .unset, .unset, .unset, .unset, .unset, .unset, .unset, .unset, .unset, .unset, .unset, .unset, .unset, .unset, .unset, .unset, .unset, .unset] [(.int (own_irem (p2 &&& (2147483647 : Int32)) (5 : Int32)))])) _
  refine XS.istore X0.here hx rfl (hb hby at_15) rfl (l' := #[.val (.int p1), .val (.int p2), .val (.long q3), .second, .val (.int p4), .val (.int p5), .val (.long q6), .second, .val (.int (own_irem (p1 &&& (2147483647 : Int32)) (429496729 : Int32))), .val (.int (own_irem (p2 &&& (2147483647 : Int32)) (5 : Int32))), .unset, .unset, .unset, .unset, .unset, .unset, .unset, .unset, .unset, .unset, .unset, .unset, .unset, .unset, .unset, .unset, .unset, .unset]) rfl ?_
  show Steps p.tables e below (T0.setTop (mkF m 17 #[.val (.int p1), .val (.int p2), .val (.long q3), .second, .val (.int p4), .val (.int p5), .val (.long q6), .second, .val (.int (own_irem (p1 &&& (2147483647 : Int32)) (429496729 : Int32))), .val (.int (own_irem (p2 &&& (2147483647 : Int32)) (5 : Int32))), .unset, .unset, .unset, .unset, .unset, .unset, .unset, .unset, .unset, .unset, .unset, .unset, .unset, .unset, .unset, .unset, .unset, .unset] [])) _
  refine XS.lloadN X0.here hx rfl (hb hby at_17) rfl ?_
  show Steps p.tables e below (T0.setTop (mkF m 18 #[.val (.int p1), .val (.int p2), .val (.long q3), .second, .val (.int p4), .val (.int p5), .val (.long q6), .second, .val (.int (own_irem (p1 &&& (2147483647 : Int32)) (429496729 : Int32))), .val (.int (own_irem (p2 &&& (2147483647 : Int32)) (5 : Int32))), .unset, .unset, .unset, .unset, .unset, .unset, .unset, .unset, .unset, .unset, .unset, .unset, .unset, .unset, .unset, .unset, .unset, .unset] [(.long q3)])) _
  refine X0.ldc2Long hx hown (mvT hZ (hw _ (List.mem_of_getElem? (i := 2) rfl))) (g := (mkF m 18 #[.val (.int p1), .val (.int p2), .val (.long q3), .second, .val (.int p4), .val (.int p5), .val (.long q6), .second, .val (.int (own_irem (p1 &&& (2147483647 : Int32)) (429496729 : Int32))), .val (.int (own_irem (p2 &&& (2147483647 : Int32)) (5 : Int32))), .unset, .unset, .unset, .unset, .unset, .unset, .unset, .unset, .unset, .unset, .unset, .unset, .unset, .unset, .unset, .unset, .unset, .unset] [(.long q3)])) rfl (hb hby at_18) _ ?_
  show Steps p.tables e below (T0.setTop (mkF m 21 #[.val (.int p1), .val (.int p2), .val (.long q3), .second, .val (.int p4), .val (.int p5), .val (.long q6), .second, .val (.int (own_irem (p1 &&& (2147483647 : Int32)) (429496729 : Int32))), .val (.int (own_irem (p2 &&& (2147483647 : Int32)) (5 : Int32))), .unset, .unset, .unset, .unset, .unset, .unset, .unset, .unset, .unset, .unset, .unset, .unset, .unset, .unset, .unset, .unset, .unset, .unset] [(.long (68719476736 : Int64)), (.long q3)])) _
  refine XS.lrem X0.here hx rfl (hb hby at_21) rfl (by decide) ?_
  show Steps p.tables e below (T0.setTop (mkF m 22 #[.val (.int p1), .val (.int p2), .val (.long q3), .second, .val (.int p4), .val (.int p5), .val (.long q6), .second, .val (.int (own_irem (p1 &&& (2147483647 : Int32)) (429496729 : Int32))), .val (.int (own_irem (p2 &&& (2147483647 : Int32)) (5 : Int32))), .unset, .unset, .unset, .unset, .unset, .unset, .unset, .unset, .unset, .unset, .unset, .unset, .unset, .unset, .unset, .unset, .unset, .unset] [(.long (own_lrem q3 (68719476736 : Int64)))])) _
  refine XS.lstore X0.here hx rfl (hb hby at_22) rfl (l' := #[.val (.int p1), .val (.int p2), .val (.long q3), .second, .val (.int p4), .val (.int p5), .val (.long q6), .second, .val (.int (own_irem (p1 &&& (2147483647 : Int32)) (429496729 : Int32))), .val (.int (own_irem (p2 &&& (2147483647 : Int32)) (5 : Int32))), .val (.long (own_lrem q3 (68719476736 : Int64))), .second, .unset, .unset, .unset, .unset, .unset, .unset, .unset, .unset, .unset, .unset, .unset, .unset, .unset, .unset, .unset, .unset]) rfl ?_
  show Steps p.tables e below (T0.setTop (mkF m 24 #[.val (.int p1), .val (.int p2), .val (.long q3), .second, .val (.int p4), .val (.int p5), .val (.long q6), .second, .val (.int (own_irem (p1 &&& (2147483647 : Int32)) (429496729 : Int32))), .val (.int (own_irem (p2 &&& (2147483647 : Int32)) (5 : Int32))), .val (.long (own_lrem q3 (68719476736 : Int64))), .second, .unset, .unset, .unset, .unset, .unset, .unset, .unset, .unset, .unset, .unset, .unset, .unset, .unset, .unset, .unset, .unset] [])) _
  refine XS.iload X0.here hx rfl (hb hby at_24) rfl ?_
  show Steps p.tables e below (T0.setTop (mkF m 26 #[.val (.int p1), .val (.int p2), .val (.long q3), .second, .val (.int p4), .val (.int p5), .val (.long q6), .second, .val (.int (own_irem (p1 &&& (2147483647 : Int32)) (429496729 : Int32))), .val (.int (own_irem (p2 &&& (2147483647 : Int32)) (5 : Int32))), .val (.long (own_lrem q3 (68719476736 : Int64))), .second, .unset, .unset, .unset, .unset, .unset, .unset, .unset, .unset, .unset, .unset, .unset, .unset, .unset, .unset, .unset, .unset] [(.int p5)])) _
  refine XS.iconst X0.here hx rfl (hb hby at_26) ?_
  show Steps p.tables e below (T0.setTop (mkF m 27 #[.val (.int p1), .val (.int p2), .val (.long q3), .second, .val (.int p4), .val (.int p5), .val (.long q6), .second, .val (.int (own_irem (p1 &&& (2147483647 : Int32)) (429496729 : Int32))), .val (.int (own_irem (p2 &&& (2147483647 : Int32)) (5 : Int32))), .val (.long (own_lrem q3 (68719476736 : Int64))), .second, .unset, .unset, .unset, .unset, .unset, .unset, .unset, .unset, .unset, .unset, .unset, .unset, .unset, .unset, .unset, .unset] [(.int (1 : Int32)), (.int p5)])) _
  refine XS.iand X0.here hx rfl (hb hby at_27) rfl ?_
  show Steps p.tables e below (T0.setTop (mkF m 28 #[.val (.int p1), .val (.int p2), .val (.long q3), .second, .val (.int p4), .val (.int p5), .val (.long q6), .second, .val (.int (own_irem (p1 &&& (2147483647 : Int32)) (429496729 : Int32))), .val (.int (own_irem (p2 &&& (2147483647 : Int32)) (5 : Int32))), .val (.long (own_lrem q3 (68719476736 : Int64))), .second, .unset, .unset, .unset, .unset, .unset, .unset, .unset, .unset, .unset, .unset, .unset, .unset, .unset, .unset, .unset, .unset] [(.int (p5 &&& (1 : Int32)))])) _
  refine XS.ifYes X0.here hx rfl (pc0 := 28) (pc' := 35) rfl (hb hby at_28) rfl ((if0 _ _).trans (teq hc28).1) (by decide) (by decide) ?_
  show Steps p.tables e below (T0.setTop (mkF m 35 #[.val (.int p1), .val (.int p2), .val (.long q3), .second, .val (.int p4), .val (.int p5), .val (.long q6), .second, .val (.int (own_irem (p1 &&& (2147483647 : Int32)) (429496729 : Int32))), .val (.int (own_irem (p2 &&& (2147483647 : Int32)) (5 : Int32))), .val (.long (own_lrem q3 (68719476736 : Int64))), .second, .unset, .unset, .unset, .unset, .unset, .unset, .unset, .unset, .unset, .unset, .unset, .unset, .unset, .unset, .unset, .unset] [])) _
  refine XS.iconst X0.here hx rfl (hb hby at_35) ?_
  show Steps p.tables e below (T0.setTop (mkF m 36 #[.val (.int p1), .val (.int p2), .val (.long q3), .second, .val (.int p4), .val (.int p5), .val (.long q6), .second, .val (.int (own_irem (p1 &&& (2147483647 : Int32)) (429496729 : Int32))), .val (.int (own_irem (p2 &&& (2147483647 : Int32)) (5 : Int32))), .val (.long (own_lrem q3 (68719476736 : Int64))), .second, .unset, .unset, .unset, .unset, .unset, .unset, .unset, .unset, .unset, .unset, .unset, .unset, .unset, .unset, .unset, .unset] [(.int (0 : Int32))])) _
  refine XS.istore X0.here hx rfl (hb hby at_36) rfl (l' := #[.val (.int p1), .val (.int p2), .val (.long q3), .second, .val (.int p4), .val (.int p5), .val (.long q6), .second, .val (.int (own_irem (p1 &&& (2147483647 : Int32)) (429496729 : Int32))), .val (.int (own_irem (p2 &&& (2147483647 : Int32)) (5 : Int32))), .val (.long (own_lrem q3 (68719476736 : Int64))), .second, .val (.int (0 : Int32)), .unset, .unset, .unset, .unset, .unset, .unset, .unset, .unset, .unset, .unset, .unset, .unset, .unset, .unset, .unset]) rfl ?_
  exact kt
set_option maxRecDepth 65536 in
set_option maxHeartbeats 40000000 in
theorem tn_0_f {p : Program} {l : Launch} {e : Env} {R : Room} {s : State} {m : MethodId} {args : Array Value} {below : List Frame} {meth : Method} {c : Code} {T0 : State} {locs : List Loc} {cells slots : Nat} {Z : State} {a0 : Array Value} {h0 : Heap} (p1 : Int32) (p2 : Int32) (q3 : Int64) (p4 : Int32) (p5 : Int32) (q6 : Int64)
    (X0 : Stand p l e R s m args below meth c T0 locs cells slots) (hx : p.tables.exec = Jvm.exec) (hZ : Z.Warmed39 s.vm) (hw : ∀ d ∈ tables_1, d.before a0 Z = true) (hby : c.code = code) (hml : c.maxLocals = 28) (hown : s.vm.findClass "com/example/crackline/crackline/SeenValuesAddPinLaw" = some m.cls) (e0 : T0.heap = h0) (hc28 : ¬ ((p5 &&& (1 : Int32)) = (0 : Int32))) :
    ∃ (T' : State), Stand p l e R s m args below meth c T' locs cells slots ∧ T'.heap = h0 ∧
      ∀ target, Steps p.tables e below (T'.setTop (mkF m 38 #[.val (.int p1), .val (.int p2), .val (.long q3), .second, .val (.int p4), .val (.int p5), .val (.long q6), .second, .val (.int (own_irem (p1 &&& (2147483647 : Int32)) (429496729 : Int32))), .val (.int (own_irem (p2 &&& (2147483647 : Int32)) (5 : Int32))), .val (.long (own_lrem q3 (68719476736 : Int64))), .second, .val (.int (1 : Int32)), .unset, .unset, .unset, .unset, .unset, .unset, .unset, .unset, .unset, .unset, .unset, .unset, .unset, .unset, .unset] [])) target → Steps p.tables e below (T0.setTop (mkF m 0 #[.val (.int p1), .val (.int p2), .val (.long q3), .second, .val (.int p4), .val (.int p5), .val (.long q6), .second, .unset, .unset, .unset, .unset, .unset, .unset, .unset, .unset, .unset, .unset, .unset, .unset, .unset, .unset, .unset, .unset, .unset, .unset, .unset, .unset] [])) target := by
  refine ⟨T0, X0, e0, fun target kt => ?_⟩
  show Steps p.tables e below (T0.setTop (mkF m 0 #[.val (.int p1), .val (.int p2), .val (.long q3), .second, .val (.int p4), .val (.int p5), .val (.long q6), .second, .unset, .unset, .unset, .unset, .unset, .unset, .unset, .unset, .unset, .unset, .unset, .unset, .unset, .unset, .unset, .unset, .unset, .unset, .unset, .unset] [])) _
  refine XS.iloadN X0.here hx rfl (hb hby at_0) rfl ?_
  show Steps p.tables e below (T0.setTop (mkF m 1 #[.val (.int p1), .val (.int p2), .val (.long q3), .second, .val (.int p4), .val (.int p5), .val (.long q6), .second, .unset, .unset, .unset, .unset, .unset, .unset, .unset, .unset, .unset, .unset, .unset, .unset, .unset, .unset, .unset, .unset, .unset, .unset, .unset, .unset] [(.int p1)])) _
  refine X0.ldcInt hx hown (mvT hZ (hw _ (List.mem_of_getElem? (i := 0) rfl))) (g := (mkF m 1 #[.val (.int p1), .val (.int p2), .val (.long q3), .second, .val (.int p4), .val (.int p5), .val (.long q6), .second, .unset, .unset, .unset, .unset, .unset, .unset, .unset, .unset, .unset, .unset, .unset, .unset, .unset, .unset, .unset, .unset, .unset, .unset, .unset, .unset] [(.int p1)])) rfl (hb hby at_1) _ ?_
  show Steps p.tables e below (T0.setTop (mkF m 3 #[.val (.int p1), .val (.int p2), .val (.long q3), .second, .val (.int p4), .val (.int p5), .val (.long q6), .second, .unset, .unset, .unset, .unset, .unset, .unset, .unset, .unset, .unset, .unset, .unset, .unset, .unset, .unset, .unset, .unset, .unset, .unset, .unset, .unset] [(.int (2147483647 : Int32)), (.int p1)])) _
  refine XS.iand X0.here hx rfl (hb hby at_3) rfl ?_
  show Steps p.tables e below (T0.setTop (mkF m 4 #[.val (.int p1), .val (.int p2), .val (.long q3), .second, .val (.int p4), .val (.int p5), .val (.long q6), .second, .unset, .unset, .unset, .unset, .unset, .unset, .unset, .unset, .unset, .unset, .unset, .unset, .unset, .unset, .unset, .unset, .unset, .unset, .unset, .unset] [(.int (p1 &&& (2147483647 : Int32)))])) _
  refine X0.ldcInt hx hown (mvT hZ (hw _ (List.mem_of_getElem? (i := 1) rfl))) (g := (mkF m 4 #[.val (.int p1), .val (.int p2), .val (.long q3), .second, .val (.int p4), .val (.int p5), .val (.long q6), .second, .unset, .unset, .unset, .unset, .unset, .unset, .unset, .unset, .unset, .unset, .unset, .unset, .unset, .unset, .unset, .unset, .unset, .unset, .unset, .unset] [(.int (p1 &&& (2147483647 : Int32)))])) rfl (hb hby at_4) _ ?_
  show Steps p.tables e below (T0.setTop (mkF m 6 #[.val (.int p1), .val (.int p2), .val (.long q3), .second, .val (.int p4), .val (.int p5), .val (.long q6), .second, .unset, .unset, .unset, .unset, .unset, .unset, .unset, .unset, .unset, .unset, .unset, .unset, .unset, .unset, .unset, .unset, .unset, .unset, .unset, .unset] [(.int (429496729 : Int32)), (.int (p1 &&& (2147483647 : Int32)))])) _
  refine XS.irem X0.here hx rfl (hb hby at_6) rfl (by decide) ?_
  show Steps p.tables e below (T0.setTop (mkF m 7 #[.val (.int p1), .val (.int p2), .val (.long q3), .second, .val (.int p4), .val (.int p5), .val (.long q6), .second, .unset, .unset, .unset, .unset, .unset, .unset, .unset, .unset, .unset, .unset, .unset, .unset, .unset, .unset, .unset, .unset, .unset, .unset, .unset, .unset] [(.int (own_irem (p1 &&& (2147483647 : Int32)) (429496729 : Int32)))])) _
  refine XS.istore X0.here hx rfl (hb hby at_7) rfl (l' := #[.val (.int p1), .val (.int p2), .val (.long q3), .second, .val (.int p4), .val (.int p5), .val (.long q6), .second, .val (.int (own_irem (p1 &&& (2147483647 : Int32)) (429496729 : Int32))), .unset, .unset, .unset, .unset, .unset, .unset, .unset, .unset, .unset, .unset, .unset, .unset, .unset, .unset, .unset, .unset, .unset, .unset, .unset]) rfl ?_
  show Steps p.tables e below (T0.setTop (mkF m 9 #[.val (.int p1), .val (.int p2), .val (.long q3), .second, .val (.int p4), .val (.int p5), .val (.long q6), .second, .val (.int (own_irem (p1 &&& (2147483647 : Int32)) (429496729 : Int32))), .unset, .unset, .unset, .unset, .unset, .unset, .unset, .unset, .unset, .unset, .unset, .unset, .unset, .unset, .unset, .unset, .unset, .unset, .unset] [])) _
  refine XS.iloadN X0.here hx rfl (hb hby at_9) rfl ?_
  show Steps p.tables e below (T0.setTop (mkF m 10 #[.val (.int p1), .val (.int p2), .val (.long q3), .second, .val (.int p4), .val (.int p5), .val (.long q6), .second, .val (.int (own_irem (p1 &&& (2147483647 : Int32)) (429496729 : Int32))), .unset, .unset, .unset, .unset, .unset, .unset, .unset, .unset, .unset, .unset, .unset, .unset, .unset, .unset, .unset, .unset, .unset, .unset, .unset] [(.int p2)])) _
  refine X0.ldcInt hx hown (mvT hZ (hw _ (List.mem_of_getElem? (i := 0) rfl))) (g := (mkF m 10 #[.val (.int p1), .val (.int p2), .val (.long q3), .second, .val (.int p4), .val (.int p5), .val (.long q6), .second, .val (.int (own_irem (p1 &&& (2147483647 : Int32)) (429496729 : Int32))), .unset, .unset, .unset, .unset, .unset, .unset, .unset, .unset, .unset, .unset, .unset, .unset, .unset, .unset, .unset, .unset, .unset, .unset, .unset] [(.int p2)])) rfl (hb hby at_10) _ ?_
  show Steps p.tables e below (T0.setTop (mkF m 12 #[.val (.int p1), .val (.int p2), .val (.long q3), .second, .val (.int p4), .val (.int p5), .val (.long q6), .second, .val (.int (own_irem (p1 &&& (2147483647 : Int32)) (429496729 : Int32))), .unset, .unset, .unset, .unset, .unset, .unset, .unset, .unset, .unset, .unset, .unset, .unset, .unset, .unset, .unset, .unset, .unset, .unset, .unset] [(.int (2147483647 : Int32)), (.int p2)])) _
  refine XS.iand X0.here hx rfl (hb hby at_12) rfl ?_
  show Steps p.tables e below (T0.setTop (mkF m 13 #[.val (.int p1), .val (.int p2), .val (.long q3), .second, .val (.int p4), .val (.int p5), .val (.long q6), .second, .val (.int (own_irem (p1 &&& (2147483647 : Int32)) (429496729 : Int32))), .unset, .unset, .unset, .unset, .unset, .unset, .unset, .unset, .unset, .unset, .unset, .unset, .unset, .unset, .unset, .unset, .unset, .unset, .unset] [(.int (p2 &&& (2147483647 : Int32)))])) _
  refine XS.iconst X0.here hx rfl (hb hby at_13) ?_
  show Steps p.tables e below (T0.setTop (mkF m 14 #[.val (.int p1), .val (.int p2), .val (.long q3), .second, .val (.int p4), .val (.int p5), .val (.long q6), .second, .val (.int (own_irem (p1 &&& (2147483647 : Int32)) (429496729 : Int32))), .unset, .unset, .unset, .unset, .unset, .unset, .unset, .unset, .unset, .unset, .unset, .unset, .unset, .unset, .unset, .unset, .unset, .unset, .unset] [(.int (5 : Int32)), (.int (p2 &&& (2147483647 : Int32)))])) _
  refine XS.irem X0.here hx rfl (hb hby at_14) rfl (by decide) ?_
  show Steps p.tables e below (T0.setTop (mkF m 15 #[.val (.int p1), .val (.int p2), .val (.long q3), .second, .val (.int p4), .val (.int p5), .val (.long q6), .second, .val (.int (own_irem (p1 &&& (2147483647 : Int32)) (429496729 : Int32))), .unset, .unset, .unset, .unset, .unset, .unset, .unset, .unset, .unset, .unset, .unset, .unset, .unset, .unset, .unset, .unset, .unset, .unset, .unset] [(.int (own_irem (p2 &&& (2147483647 : Int32)) (5 : Int32)))])) _
  refine XS.istore X0.here hx rfl (hb hby at_15) rfl (l' := #[.val (.int p1), .val (.int p2), .val (.long q3), .second, .val (.int p4), .val (.int p5), .val (.long q6), .second, .val (.int (own_irem (p1 &&& (2147483647 : Int32)) (429496729 : Int32))), .val (.int (own_irem (p2 &&& (2147483647 : Int32)) (5 : Int32))), .unset, .unset, .unset, .unset, .unset, .unset, .unset, .unset, .unset, .unset, .unset, .unset, .unset, .unset, .unset, .unset, .unset, .unset]) rfl ?_
  show Steps p.tables e below (T0.setTop (mkF m 17 #[.val (.int p1), .val (.int p2), .val (.long q3), .second, .val (.int p4), .val (.int p5), .val (.long q6), .second, .val (.int (own_irem (p1 &&& (2147483647 : Int32)) (429496729 : Int32))), .val (.int (own_irem (p2 &&& (2147483647 : Int32)) (5 : Int32))), .unset, .unset, .unset, .unset, .unset, .unset, .unset, .unset, .unset, .unset, .unset, .unset, .unset, .unset, .unset, .unset, .unset, .unset] [])) _
  refine XS.lloadN X0.here hx rfl (hb hby at_17) rfl ?_
  show Steps p.tables e below (T0.setTop (mkF m 18 #[.val (.int p1), .val (.int p2), .val (.long q3), .second, .val (.int p4), .val (.int p5), .val (.long q6), .second, .val (.int (own_irem (p1 &&& (2147483647 : Int32)) (429496729 : Int32))), .val (.int (own_irem (p2 &&& (2147483647 : Int32)) (5 : Int32))), .unset, .unset, .unset, .unset, .unset, .unset, .unset, .unset, .unset, .unset, .unset, .unset, .unset, .unset, .unset, .unset, .unset, .unset] [(.long q3)])) _
  refine X0.ldc2Long hx hown (mvT hZ (hw _ (List.mem_of_getElem? (i := 2) rfl))) (g := (mkF m 18 #[.val (.int p1), .val (.int p2), .val (.long q3), .second, .val (.int p4), .val (.int p5), .val (.long q6), .second, .val (.int (own_irem (p1 &&& (2147483647 : Int32)) (429496729 : Int32))), .val (.int (own_irem (p2 &&& (2147483647 : Int32)) (5 : Int32))), .unset, .unset, .unset, .unset, .unset, .unset, .unset, .unset, .unset, .unset, .unset, .unset, .unset, .unset, .unset, .unset, .unset, .unset] [(.long q3)])) rfl (hb hby at_18) _ ?_
  show Steps p.tables e below (T0.setTop (mkF m 21 #[.val (.int p1), .val (.int p2), .val (.long q3), .second, .val (.int p4), .val (.int p5), .val (.long q6), .second, .val (.int (own_irem (p1 &&& (2147483647 : Int32)) (429496729 : Int32))), .val (.int (own_irem (p2 &&& (2147483647 : Int32)) (5 : Int32))), .unset, .unset, .unset, .unset, .unset, .unset, .unset, .unset, .unset, .unset, .unset, .unset, .unset, .unset, .unset, .unset, .unset, .unset] [(.long (68719476736 : Int64)), (.long q3)])) _
  refine XS.lrem X0.here hx rfl (hb hby at_21) rfl (by decide) ?_
  show Steps p.tables e below (T0.setTop (mkF m 22 #[.val (.int p1), .val (.int p2), .val (.long q3), .second, .val (.int p4), .val (.int p5), .val (.long q6), .second, .val (.int (own_irem (p1 &&& (2147483647 : Int32)) (429496729 : Int32))), .val (.int (own_irem (p2 &&& (2147483647 : Int32)) (5 : Int32))), .unset, .unset, .unset, .unset, .unset, .unset, .unset, .unset, .unset, .unset, .unset, .unset, .unset, .unset, .unset, .unset, .unset, .unset] [(.long (own_lrem q3 (68719476736 : Int64)))])) _
  refine XS.lstore X0.here hx rfl (hb hby at_22) rfl (l' := #[.val (.int p1), .val (.int p2), .val (.long q3), .second, .val (.int p4), .val (.int p5), .val (.long q6), .second, .val (.int (own_irem (p1 &&& (2147483647 : Int32)) (429496729 : Int32))), .val (.int (own_irem (p2 &&& (2147483647 : Int32)) (5 : Int32))), .val (.long (own_lrem q3 (68719476736 : Int64))), .second, .unset, .unset, .unset, .unset, .unset, .unset, .unset, .unset, .unset, .unset, .unset, .unset, .unset, .unset, .unset, .unset]) rfl ?_
  show Steps p.tables e below (T0.setTop (mkF m 24 #[.val (.int p1), .val (.int p2), .val (.long q3), .second, .val (.int p4), .val (.int p5), .val (.long q6), .second, .val (.int (own_irem (p1 &&& (2147483647 : Int32)) (429496729 : Int32))), .val (.int (own_irem (p2 &&& (2147483647 : Int32)) (5 : Int32))), .val (.long (own_lrem q3 (68719476736 : Int64))), .second, .unset, .unset, .unset, .unset, .unset, .unset, .unset, .unset, .unset, .unset, .unset, .unset, .unset, .unset, .unset, .unset] [])) _
  refine XS.iload X0.here hx rfl (hb hby at_24) rfl ?_
  show Steps p.tables e below (T0.setTop (mkF m 26 #[.val (.int p1), .val (.int p2), .val (.long q3), .second, .val (.int p4), .val (.int p5), .val (.long q6), .second, .val (.int (own_irem (p1 &&& (2147483647 : Int32)) (429496729 : Int32))), .val (.int (own_irem (p2 &&& (2147483647 : Int32)) (5 : Int32))), .val (.long (own_lrem q3 (68719476736 : Int64))), .second, .unset, .unset, .unset, .unset, .unset, .unset, .unset, .unset, .unset, .unset, .unset, .unset, .unset, .unset, .unset, .unset] [(.int p5)])) _
  refine XS.iconst X0.here hx rfl (hb hby at_26) ?_
  show Steps p.tables e below (T0.setTop (mkF m 27 #[.val (.int p1), .val (.int p2), .val (.long q3), .second, .val (.int p4), .val (.int p5), .val (.long q6), .second, .val (.int (own_irem (p1 &&& (2147483647 : Int32)) (429496729 : Int32))), .val (.int (own_irem (p2 &&& (2147483647 : Int32)) (5 : Int32))), .val (.long (own_lrem q3 (68719476736 : Int64))), .second, .unset, .unset, .unset, .unset, .unset, .unset, .unset, .unset, .unset, .unset, .unset, .unset, .unset, .unset, .unset, .unset] [(.int (1 : Int32)), (.int p5)])) _
  refine XS.iand X0.here hx rfl (hb hby at_27) rfl ?_
  show Steps p.tables e below (T0.setTop (mkF m 28 #[.val (.int p1), .val (.int p2), .val (.long q3), .second, .val (.int p4), .val (.int p5), .val (.long q6), .second, .val (.int (own_irem (p1 &&& (2147483647 : Int32)) (429496729 : Int32))), .val (.int (own_irem (p2 &&& (2147483647 : Int32)) (5 : Int32))), .val (.long (own_lrem q3 (68719476736 : Int64))), .second, .unset, .unset, .unset, .unset, .unset, .unset, .unset, .unset, .unset, .unset, .unset, .unset, .unset, .unset, .unset, .unset] [(.int (p5 &&& (1 : Int32)))])) _
  refine XS.ifNo X0.here hx rfl (hb hby at_28) rfl ((if0 _ _).trans (feq hc28).1) ?_
  show Steps p.tables e below (T0.setTop (mkF m 31 #[.val (.int p1), .val (.int p2), .val (.long q3), .second, .val (.int p4), .val (.int p5), .val (.long q6), .second, .val (.int (own_irem (p1 &&& (2147483647 : Int32)) (429496729 : Int32))), .val (.int (own_irem (p2 &&& (2147483647 : Int32)) (5 : Int32))), .val (.long (own_lrem q3 (68719476736 : Int64))), .second, .unset, .unset, .unset, .unset, .unset, .unset, .unset, .unset, .unset, .unset, .unset, .unset, .unset, .unset, .unset, .unset] [])) _
  refine XS.iconst X0.here hx rfl (hb hby at_31) ?_
  show Steps p.tables e below (T0.setTop (mkF m 32 #[.val (.int p1), .val (.int p2), .val (.long q3), .second, .val (.int p4), .val (.int p5), .val (.long q6), .second, .val (.int (own_irem (p1 &&& (2147483647 : Int32)) (429496729 : Int32))), .val (.int (own_irem (p2 &&& (2147483647 : Int32)) (5 : Int32))), .val (.long (own_lrem q3 (68719476736 : Int64))), .second, .unset, .unset, .unset, .unset, .unset, .unset, .unset, .unset, .unset, .unset, .unset, .unset, .unset, .unset, .unset, .unset] [(.int (1 : Int32))])) _
  refine XS.goto X0.here hx rfl (pc0 := 32) (pc' := 36) rfl (hb hby at_32) (by decide) (by decide) ?_
  show Steps p.tables e below (T0.setTop (mkF m 36 #[.val (.int p1), .val (.int p2), .val (.long q3), .second, .val (.int p4), .val (.int p5), .val (.long q6), .second, .val (.int (own_irem (p1 &&& (2147483647 : Int32)) (429496729 : Int32))), .val (.int (own_irem (p2 &&& (2147483647 : Int32)) (5 : Int32))), .val (.long (own_lrem q3 (68719476736 : Int64))), .second, .unset, .unset, .unset, .unset, .unset, .unset, .unset, .unset, .unset, .unset, .unset, .unset, .unset, .unset, .unset, .unset] [(.int (1 : Int32))])) _
  refine XS.istore X0.here hx rfl (hb hby at_36) rfl (l' := #[.val (.int p1), .val (.int p2), .val (.long q3), .second, .val (.int p4), .val (.int p5), .val (.long q6), .second, .val (.int (own_irem (p1 &&& (2147483647 : Int32)) (429496729 : Int32))), .val (.int (own_irem (p2 &&& (2147483647 : Int32)) (5 : Int32))), .val (.long (own_lrem q3 (68719476736 : Int64))), .second, .val (.int (1 : Int32)), .unset, .unset, .unset, .unset, .unset, .unset, .unset, .unset, .unset, .unset, .unset, .unset, .unset, .unset, .unset]) rfl ?_
  exact kt
theorem own_p0 {p : Program} {l : Launch} {e : Env} {R : Room} {s : State} {m : MethodId} {args : Array Value} {below : List Frame} {meth : Method} {c : Code} {T0 : State} {locs : List Loc} {cells slots : Nat} {Z : State} {a0 : Array Value} {h0 : Heap} (p1 : Int32) (p2 : Int32) (q3 : Int64) (p4 : Int32) (p5 : Int32) (q6 : Int64) (va12 : Int32) (hv : va12 = if (p5 &&& (1 : Int32)) = (0 : Int32) then (0 : Int32) else (1 : Int32))
    (X0 : Stand p l e R s m args below meth c T0 locs cells slots) (hx : p.tables.exec = Jvm.exec) (hZ : Z.Warmed39 s.vm) (hw : ∀ d ∈ tables_1, d.before a0 Z = true) (hby : c.code = code) (hml : c.maxLocals = 28) (hown : s.vm.findClass "com/example/crackline/crackline/SeenValuesAddPinLaw" = some m.cls) (e0 : T0.heap = h0) :
    ∃ (T' : State), Stand p l e R s m args below meth c T' locs cells slots ∧ T'.heap = h0 ∧
      ∀ target, Steps p.tables e below (T'.setTop (mkF m 38 #[.val (.int p1), .val (.int p2), .val (.long q3), .second, .val (.int p4), .val (.int p5), .val (.long q6), .second, .val (.int (own_irem (p1 &&& (2147483647 : Int32)) (429496729 : Int32))), .val (.int (own_irem (p2 &&& (2147483647 : Int32)) (5 : Int32))), .val (.long (own_lrem q3 (68719476736 : Int64))), .second, .val (.int va12), .unset, .unset, .unset, .unset, .unset, .unset, .unset, .unset, .unset, .unset, .unset, .unset, .unset, .unset, .unset] [])) target → Steps p.tables e below (T0.setTop (mkF m 0 #[.val (.int p1), .val (.int p2), .val (.long q3), .second, .val (.int p4), .val (.int p5), .val (.long q6), .second, .unset, .unset, .unset, .unset, .unset, .unset, .unset, .unset, .unset, .unset, .unset, .unset, .unset, .unset, .unset, .unset, .unset, .unset, .unset, .unset] [])) target := by
  by_cases hcc : (p5 &&& (1 : Int32)) = (0 : Int32)
  · rw [if_pos hcc] at hv
    rw [hv]
    exact tn_0_t p1 p2 q3 p4 p5 q6 X0 hx hZ hw hby hml hown e0 hcc
  · rw [if_neg hcc] at hv
    rw [hv]
    exact tn_0_f p1 p2 q3 p4 p5 q6 X0 hx hZ hw hby hml hown e0 hcc
set_option maxRecDepth 65536 in
set_option maxHeartbeats 40000000 in
theorem tn_38_t {p : Program} {l : Launch} {e : Env} {R : Room} {s : State} {m : MethodId} {args : Array Value} {below : List Frame} {meth : Method} {c : Code} {T0 : State} {locs : List Loc} {cells slots : Nat} {Z : State} {a0 : Array Value} {h0 : Heap} (p1 : Int32) (p2 : Int32) (q3 : Int64) (p4 : Int32) (p5 : Int32) (q6 : Int64) (va8 : Int32) (va9 : Int32) (vd10 : Int64) (va12 : Int32)
    (X0 : Stand p l e R s m args below meth c T0 locs cells slots) (hx : p.tables.exec = Jvm.exec) (hZ : Z.Warmed39 s.vm) (hw : ∀ d ∈ tables_1, d.before a0 Z = true) (hby : c.code = code) (hml : c.maxLocals = 28) (hown : s.vm.findClass "com/example/crackline/crackline/SeenValuesAddPinLaw" = some m.cls) (e0 : T0.heap = h0) (hc42 : (p5 &&& (2 : Int32)) = (0 : Int32)) :
    ∃ (T' : State), Stand p l e R s m args below meth c T' locs cells slots ∧ T'.heap = h0 ∧
      ∀ target, Steps p.tables e below (T'.setTop (mkF m 52 #[.val (.int p1), .val (.int p2), .val (.long q3), .second, .val (.int p4), .val (.int p5), .val (.long q6), .second, .val (.int va8), .val (.int va9), .val (.long vd10), .second, .val (.int va12), .val (.int (0 : Int32)), .unset, .unset, .unset, .unset, .unset, .unset, .unset, .unset, .unset, .unset, .unset, .unset, .unset, .unset] [])) target → Steps p.tables e below (T0.setTop (mkF m 38 #[.val (.int p1), .val (.int p2), .val (.long q3), .second, .val (.int p4), .val (.int p5), .val (.long q6), .second, .val (.int va8), .val (.int va9), .val (.long vd10), .second, .val (.int va12), .unset, .unset, .unset, .unset, .unset, .unset, .unset, .unset, .unset, .unset, .unset, .unset, .unset, .unset, .unset] [])) target := by
  refine ⟨T0, X0, e0, fun target kt => ?_⟩
  show Steps p.tables e below (T0.setTop (mkF m 38 #[.val (.int p1), .val (.int p2), .val (.long q3), .second, .val (.int p4), .val (.int p5), .val (.long q6), .second, .val (.int va8), .val (.int va9), .val (.long vd10), .second, .val (.int va12), .unset, .unset, .unset, .unset, .unset, .unset, .unset, .unset, .unset, .unset, .unset, .unset, .unset, .unset, .unset] [])) _
  refine XS.iload X0.here hx rfl (hb hby at_38) rfl ?_
  show Steps p.tables e below (T0.setTop (mkF m 40 #[.val (.int p1), .val (.int p2), .val (.long q3), .second, .val (.int p4), .val (.int p5), .val (.long q6), .second, .val (.int va8), .val (.int va9), .val (.long vd10), .second, .val (.int va12), .unset, .unset, .unset, .unset, .unset, .unset, .unset, .unset, .unset, .unset, .unset, .unset, .unset, .unset, .unset] [(.int p5)])) _
  refine XS.iconst X0.here hx rfl (hb hby at_40) ?_
  show Steps p.tables e below (T0.setTop (mkF m 41 #[.val (.int p1), .val (.int p2), .val (.long q3), .second, .val (.int p4), .val (.int p5), .val (.long q6), .second, .val (.int va8), .val (.int va9), .val (.long vd10), .second, .val (.int va12), .unset, .unset, .unset, .unset, .unset, .unset, .unset, .unset, .unset, .unset, .unset, .unset, .unset, .unset, .unset] [(.int (2 : Int32)), (.int p5)])) _
  refine XS.iand X0.here hx rfl (hb hby at_41) rfl ?_
  show Steps p.tables e below (T0.setTop (mkF m 42 #[.val (.int p1), .val (.int p2), .val (.long q3), .second, .val (.int p4), .val (.int p5), .val (.long q6), .second, .val (.int va8), .val (.int va9), .val (.long vd10), .second, .val (.int va12), .unset, .unset, .unset, .unset, .unset, .unset, .unset, .unset, .unset, .unset, .unset, .unset, .unset, .unset, .unset] [(.int (p5 &&& (2 : Int32)))])) _
  refine XS.ifYes X0.here hx rfl (pc0 := 42) (pc' := 49) rfl (hb hby at_42) rfl ((if0 _ _).trans (teq hc42).1) (by decide) (by decide) ?_
  show Steps p.tables e below (T0.setTop (mkF m 49 #[.val (.int p1), .val (.int p2), .val (.long q3), .second, .val (.int p4), .val (.int p5), .val (.long q6), .second, .val (.int va8), .val (.int va9), .val (.long vd10), .second, .val (.int va12), .unset, .unset, .unset, .unset, .unset, .unset, .unset, .unset, .unset, .unset, .unset, .unset, .unset, .unset, .unset] [])) _
  refine XS.iconst X0.here hx rfl (hb hby at_49) ?_
  show Steps p.tables e below (T0.setTop (mkF m 50 #[.val (.int p1), .val (.int p2), .val (.long q3), .second, .val (.int p4), .val (.int p5), .val (.long q6), .second, .val (.int va8), .val (.int va9), .val (.long vd10), .second, .val (.int va12), .unset, .unset, .unset, .unset, .unset, .unset, .unset, .unset, .unset, .unset, .unset, .unset, .unset, .unset, .unset] [(.int (0 : Int32))])) _
  refine XS.istore X0.here hx rfl (hb hby at_50) rfl (l' := #[.val (.int p1), .val (.int p2), .val (.long q3), .second, .val (.int p4), .val (.int p5), .val (.long q6), .second, .val (.int va8), .val (.int va9), .val (.long vd10), .second, .val (.int va12), .val (.int (0 : Int32)), .unset, .unset, .unset, .unset, .unset, .unset, .unset, .unset, .unset, .unset, .unset, .unset, .unset, .unset]) rfl ?_
  exact kt
set_option maxRecDepth 65536 in
set_option maxHeartbeats 40000000 in
theorem tn_38_f {p : Program} {l : Launch} {e : Env} {R : Room} {s : State} {m : MethodId} {args : Array Value} {below : List Frame} {meth : Method} {c : Code} {T0 : State} {locs : List Loc} {cells slots : Nat} {Z : State} {a0 : Array Value} {h0 : Heap} (p1 : Int32) (p2 : Int32) (q3 : Int64) (p4 : Int32) (p5 : Int32) (q6 : Int64) (va8 : Int32) (va9 : Int32) (vd10 : Int64) (va12 : Int32)
    (X0 : Stand p l e R s m args below meth c T0 locs cells slots) (hx : p.tables.exec = Jvm.exec) (hZ : Z.Warmed39 s.vm) (hw : ∀ d ∈ tables_1, d.before a0 Z = true) (hby : c.code = code) (hml : c.maxLocals = 28) (hown : s.vm.findClass "com/example/crackline/crackline/SeenValuesAddPinLaw" = some m.cls) (e0 : T0.heap = h0) (hc42 : ¬ ((p5 &&& (2 : Int32)) = (0 : Int32))) :
    ∃ (T' : State), Stand p l e R s m args below meth c T' locs cells slots ∧ T'.heap = h0 ∧
      ∀ target, Steps p.tables e below (T'.setTop (mkF m 52 #[.val (.int p1), .val (.int p2), .val (.long q3), .second, .val (.int p4), .val (.int p5), .val (.long q6), .second, .val (.int va8), .val (.int va9), .val (.long vd10), .second, .val (.int va12), .val (.int (1 : Int32)), .unset, .unset, .unset, .unset, .unset, .unset, .unset, .unset, .unset, .unset, .unset, .unset, .unset, .unset] [])) target → Steps p.tables e below (T0.setTop (mkF m 38 #[.val (.int p1), .val (.int p2), .val (.long q3), .second, .val (.int p4), .val (.int p5), .val (.long q6), .second, .val (.int va8), .val (.int va9), .val (.long vd10), .second, .val (.int va12), .unset, .unset, .unset, .unset, .unset, .unset, .unset, .unset, .unset, .unset, .unset, .unset, .unset, .unset, .unset] [])) target := by
  refine ⟨T0, X0, e0, fun target kt => ?_⟩
  show Steps p.tables e below (T0.setTop (mkF m 38 #[.val (.int p1), .val (.int p2), .val (.long q3), .second, .val (.int p4), .val (.int p5), .val (.long q6), .second, .val (.int va8), .val (.int va9), .val (.long vd10), .second, .val (.int va12), .unset, .unset, .unset, .unset, .unset, .unset, .unset, .unset, .unset, .unset, .unset, .unset, .unset, .unset, .unset] [])) _
  refine XS.iload X0.here hx rfl (hb hby at_38) rfl ?_
  show Steps p.tables e below (T0.setTop (mkF m 40 #[.val (.int p1), .val (.int p2), .val (.long q3), .second, .val (.int p4), .val (.int p5), .val (.long q6), .second, .val (.int va8), .val (.int va9), .val (.long vd10), .second, .val (.int va12), .unset, .unset, .unset, .unset, .unset, .unset, .unset, .unset, .unset, .unset, .unset, .unset, .unset, .unset, .unset] [(.int p5)])) _
  refine XS.iconst X0.here hx rfl (hb hby at_40) ?_
  show Steps p.tables e below (T0.setTop (mkF m 41 #[.val (.int p1), .val (.int p2), .val (.long q3), .second, .val (.int p4), .val (.int p5), .val (.long q6), .second, .val (.int va8), .val (.int va9), .val (.long vd10), .second, .val (.int va12), .unset, .unset, .unset, .unset, .unset, .unset, .unset, .unset, .unset, .unset, .unset, .unset, .unset, .unset, .unset] [(.int (2 : Int32)), (.int p5)])) _
  refine XS.iand X0.here hx rfl (hb hby at_41) rfl ?_
  show Steps p.tables e below (T0.setTop (mkF m 42 #[.val (.int p1), .val (.int p2), .val (.long q3), .second, .val (.int p4), .val (.int p5), .val (.long q6), .second, .val (.int va8), .val (.int va9), .val (.long vd10), .second, .val (.int va12), .unset, .unset, .unset, .unset, .unset, .unset, .unset, .unset, .unset, .unset, .unset, .unset, .unset, .unset, .unset] [(.int (p5 &&& (2 : Int32)))])) _
  refine XS.ifNo X0.here hx rfl (hb hby at_42) rfl ((if0 _ _).trans (feq hc42).1) ?_
  show Steps p.tables e below (T0.setTop (mkF m 45 #[.val (.int p1), .val (.int p2), .val (.long q3), .second, .val (.int p4), .val (.int p5), .val (.long q6), .second, .val (.int va8), .val (.int va9), .val (.long vd10), .second, .val (.int va12), .unset, .unset, .unset, .unset, .unset, .unset, .unset, .unset, .unset, .unset, .unset, .unset, .unset, .unset, .unset] [])) _
  refine XS.iconst X0.here hx rfl (hb hby at_45) ?_
  show Steps p.tables e below (T0.setTop (mkF m 46 #[.val (.int p1), .val (.int p2), .val (.long q3), .second, .val (.int p4), .val (.int p5), .val (.long q6), .second, .val (.int va8), .val (.int va9), .val (.long vd10), .second, .val (.int va12), .unset, .unset, .unset, .unset, .unset, .unset, .unset, .unset, .unset, .unset, .unset, .unset, .unset, .unset, .unset] [(.int (1 : Int32))])) _
  refine XS.goto X0.here hx rfl (pc0 := 46) (pc' := 50) rfl (hb hby at_46) (by decide) (by decide) ?_
  show Steps p.tables e below (T0.setTop (mkF m 50 #[.val (.int p1), .val (.int p2), .val (.long q3), .second, .val (.int p4), .val (.int p5), .val (.long q6), .second, .val (.int va8), .val (.int va9), .val (.long vd10), .second, .val (.int va12), .unset, .unset, .unset, .unset, .unset, .unset, .unset, .unset, .unset, .unset, .unset, .unset, .unset, .unset, .unset] [(.int (1 : Int32))])) _
  refine XS.istore X0.here hx rfl (hb hby at_50) rfl (l' := #[.val (.int p1), .val (.int p2), .val (.long q3), .second, .val (.int p4), .val (.int p5), .val (.long q6), .second, .val (.int va8), .val (.int va9), .val (.long vd10), .second, .val (.int va12), .val (.int (1 : Int32)), .unset, .unset, .unset, .unset, .unset, .unset, .unset, .unset, .unset, .unset, .unset, .unset, .unset, .unset]) rfl ?_
  exact kt
theorem own_p38 {p : Program} {l : Launch} {e : Env} {R : Room} {s : State} {m : MethodId} {args : Array Value} {below : List Frame} {meth : Method} {c : Code} {T0 : State} {locs : List Loc} {cells slots : Nat} {Z : State} {a0 : Array Value} {h0 : Heap} (p1 : Int32) (p2 : Int32) (q3 : Int64) (p4 : Int32) (p5 : Int32) (q6 : Int64) (va8 : Int32) (va9 : Int32) (vd10 : Int64) (va12 : Int32) (va13 : Int32) (hv : va13 = if (p5 &&& (2 : Int32)) = (0 : Int32) then (0 : Int32) else (1 : Int32))
    (X0 : Stand p l e R s m args below meth c T0 locs cells slots) (hx : p.tables.exec = Jvm.exec) (hZ : Z.Warmed39 s.vm) (hw : ∀ d ∈ tables_1, d.before a0 Z = true) (hby : c.code = code) (hml : c.maxLocals = 28) (hown : s.vm.findClass "com/example/crackline/crackline/SeenValuesAddPinLaw" = some m.cls) (e0 : T0.heap = h0) :
    ∃ (T' : State), Stand p l e R s m args below meth c T' locs cells slots ∧ T'.heap = h0 ∧
      ∀ target, Steps p.tables e below (T'.setTop (mkF m 52 #[.val (.int p1), .val (.int p2), .val (.long q3), .second, .val (.int p4), .val (.int p5), .val (.long q6), .second, .val (.int va8), .val (.int va9), .val (.long vd10), .second, .val (.int va12), .val (.int va13), .unset, .unset, .unset, .unset, .unset, .unset, .unset, .unset, .unset, .unset, .unset, .unset, .unset, .unset] [])) target → Steps p.tables e below (T0.setTop (mkF m 38 #[.val (.int p1), .val (.int p2), .val (.long q3), .second, .val (.int p4), .val (.int p5), .val (.long q6), .second, .val (.int va8), .val (.int va9), .val (.long vd10), .second, .val (.int va12), .unset, .unset, .unset, .unset, .unset, .unset, .unset, .unset, .unset, .unset, .unset, .unset, .unset, .unset, .unset] [])) target := by
  by_cases hcc : (p5 &&& (2 : Int32)) = (0 : Int32)
  · rw [if_pos hcc] at hv
    rw [hv]
    exact tn_38_t p1 p2 q3 p4 p5 q6 va8 va9 vd10 va12 X0 hx hZ hw hby hml hown e0 hcc
  · rw [if_neg hcc] at hv
    rw [hv]
    exact tn_38_f p1 p2 q3 p4 p5 q6 va8 va9 vd10 va12 X0 hx hZ hw hby hml hown e0 hcc
set_option maxRecDepth 65536 in
set_option maxHeartbeats 40000000 in
theorem tn_52_t {p : Program} {l : Launch} {e : Env} {R : Room} {s : State} {m : MethodId} {args : Array Value} {below : List Frame} {meth : Method} {c : Code} {T0 : State} {locs : List Loc} {cells slots : Nat} {Z : State} {a0 : Array Value} {h0 : Heap} (p1 : Int32) (p2 : Int32) (q3 : Int64) (p4 : Int32) (p5 : Int32) (q6 : Int64) (va8 : Int32) (va9 : Int32) (vd10 : Int64) (va12 : Int32) (va13 : Int32)
    (X0 : Stand p l e R s m args below meth c T0 locs cells slots) (hx : p.tables.exec = Jvm.exec) (hZ : Z.Warmed39 s.vm) (hw : ∀ d ∈ tables_1, d.before a0 Z = true) (hby : c.code = code) (hml : c.maxLocals = 28) (hown : s.vm.findClass "com/example/crackline/crackline/SeenValuesAddPinLaw" = some m.cls) (e0 : T0.heap = h0) (hc56 : (p5 &&& (4 : Int32)) = (0 : Int32)) :
    ∃ (T' : State), Stand p l e R s m args below meth c T' locs cells slots ∧ T'.heap = h0 ∧
      ∀ target, Steps p.tables e below (T'.setTop (mkF m 66 #[.val (.int p1), .val (.int p2), .val (.long q3), .second, .val (.int p4), .val (.int p5), .val (.long q6), .second, .val (.int va8), .val (.int va9), .val (.long vd10), .second, .val (.int va12), .val (.int va13), .val (.int (0 : Int32)), .unset, .unset, .unset, .unset, .unset, .unset, .unset, .unset, .unset, .unset, .unset, .unset, .unset] [])) target → Steps p.tables e below (T0.setTop (mkF m 52 #[.val (.int p1), .val (.int p2), .val (.long q3), .second, .val (.int p4), .val (.int p5), .val (.long q6), .second, .val (.int va8), .val (.int va9), .val (.long vd10), .second, .val (.int va12), .val (.int va13), .unset, .unset, .unset, .unset, .unset, .unset, .unset, .unset, .unset, .unset, .unset, .unset, .unset, .unset] [])) target := by
  refine ⟨T0, X0, e0, fun target kt => ?_⟩
  show Steps p.tables e below (T0.setTop (mkF m 52 #[.val (.int p1), .val (.int p2), .val (.long q3), .second, .val (.int p4), .val (.int p5), .val (.long q6), .second, .val (.int va8), .val (.int va9), .val (.long vd10), .second, .val (.int va12), .val (.int va13), .unset, .unset, .unset, .unset, .unset, .unset, .unset, .unset, .unset, .unset, .unset, .unset, .unset, .unset] [])) _
  refine XS.iload X0.here hx rfl (hb hby at_52) rfl ?_
  show Steps p.tables e below (T0.setTop (mkF m 54 #[.val (.int p1), .val (.int p2), .val (.long q3), .second, .val (.int p4), .val (.int p5), .val (.long q6), .second, .val (.int va8), .val (.int va9), .val (.long vd10), .second, .val (.int va12), .val (.int va13), .unset, .unset, .unset, .unset, .unset, .unset, .unset, .unset, .unset, .unset, .unset, .unset, .unset, .unset] [(.int p5)])) _
  refine XS.iconst X0.here hx rfl (hb hby at_54) ?_
  show Steps p.tables e below (T0.setTop (mkF m 55 #[.val (.int p1), .val (.int p2), .val (.long q3), .second, .val (.int p4), .val (.int p5), .val (.long q6), .second, .val (.int va8), .val (.int va9), .val (.long vd10), .second, .val (.int va12), .val (.int va13), .unset, .unset, .unset, .unset, .unset, .unset, .unset, .unset, .unset, .unset, .unset, .unset, .unset, .unset] [(.int (4 : Int32)), (.int p5)])) _
  refine XS.iand X0.here hx rfl (hb hby at_55) rfl ?_
  show Steps p.tables e below (T0.setTop (mkF m 56 #[.val (.int p1), .val (.int p2), .val (.long q3), .second, .val (.int p4), .val (.int p5), .val (.long q6), .second, .val (.int va8), .val (.int va9), .val (.long vd10), .second, .val (.int va12), .val (.int va13), .unset, .unset, .unset, .unset, .unset, .unset, .unset, .unset, .unset, .unset, .unset, .unset, .unset, .unset] [(.int (p5 &&& (4 : Int32)))])) _
  refine XS.ifYes X0.here hx rfl (pc0 := 56) (pc' := 63) rfl (hb hby at_56) rfl ((if0 _ _).trans (teq hc56).1) (by decide) (by decide) ?_
  show Steps p.tables e below (T0.setTop (mkF m 63 #[.val (.int p1), .val (.int p2), .val (.long q3), .second, .val (.int p4), .val (.int p5), .val (.long q6), .second, .val (.int va8), .val (.int va9), .val (.long vd10), .second, .val (.int va12), .val (.int va13), .unset, .unset, .unset, .unset, .unset, .unset, .unset, .unset, .unset, .unset, .unset, .unset, .unset, .unset] [])) _
  refine XS.iconst X0.here hx rfl (hb hby at_63) ?_
  show Steps p.tables e below (T0.setTop (mkF m 64 #[.val (.int p1), .val (.int p2), .val (.long q3), .second, .val (.int p4), .val (.int p5), .val (.long q6), .second, .val (.int va8), .val (.int va9), .val (.long vd10), .second, .val (.int va12), .val (.int va13), .unset, .unset, .unset, .unset, .unset, .unset, .unset, .unset, .unset, .unset, .unset, .unset, .unset, .unset] [(.int (0 : Int32))])) _
  refine XS.istore X0.here hx rfl (hb hby at_64) rfl (l' := #[.val (.int p1), .val (.int p2), .val (.long q3), .second, .val (.int p4), .val (.int p5), .val (.long q6), .second, .val (.int va8), .val (.int va9), .val (.long vd10), .second, .val (.int va12), .val (.int va13), .val (.int (0 : Int32)), .unset, .unset, .unset, .unset, .unset, .unset, .unset, .unset, .unset, .unset, .unset, .unset, .unset]) rfl ?_
  exact kt
set_option maxRecDepth 65536 in
set_option maxHeartbeats 40000000 in
theorem tn_52_f {p : Program} {l : Launch} {e : Env} {R : Room} {s : State} {m : MethodId} {args : Array Value} {below : List Frame} {meth : Method} {c : Code} {T0 : State} {locs : List Loc} {cells slots : Nat} {Z : State} {a0 : Array Value} {h0 : Heap} (p1 : Int32) (p2 : Int32) (q3 : Int64) (p4 : Int32) (p5 : Int32) (q6 : Int64) (va8 : Int32) (va9 : Int32) (vd10 : Int64) (va12 : Int32) (va13 : Int32)
    (X0 : Stand p l e R s m args below meth c T0 locs cells slots) (hx : p.tables.exec = Jvm.exec) (hZ : Z.Warmed39 s.vm) (hw : ∀ d ∈ tables_1, d.before a0 Z = true) (hby : c.code = code) (hml : c.maxLocals = 28) (hown : s.vm.findClass "com/example/crackline/crackline/SeenValuesAddPinLaw" = some m.cls) (e0 : T0.heap = h0) (hc56 : ¬ ((p5 &&& (4 : Int32)) = (0 : Int32))) :
    ∃ (T' : State), Stand p l e R s m args below meth c T' locs cells slots ∧ T'.heap = h0 ∧
      ∀ target, Steps p.tables e below (T'.setTop (mkF m 66 #[.val (.int p1), .val (.int p2), .val (.long q3), .second, .val (.int p4), .val (.int p5), .val (.long q6), .second, .val (.int va8), .val (.int va9), .val (.long vd10), .second, .val (.int va12), .val (.int va13), .val (.int (1 : Int32)), .unset, .unset, .unset, .unset, .unset, .unset, .unset, .unset, .unset, .unset, .unset, .unset, .unset] [])) target → Steps p.tables e below (T0.setTop (mkF m 52 #[.val (.int p1), .val (.int p2), .val (.long q3), .second, .val (.int p4), .val (.int p5), .val (.long q6), .second, .val (.int va8), .val (.int va9), .val (.long vd10), .second, .val (.int va12), .val (.int va13), .unset, .unset, .unset, .unset, .unset, .unset, .unset, .unset, .unset, .unset, .unset, .unset, .unset, .unset] [])) target := by
  refine ⟨T0, X0, e0, fun target kt => ?_⟩
  show Steps p.tables e below (T0.setTop (mkF m 52 #[.val (.int p1), .val (.int p2), .val (.long q3), .second, .val (.int p4), .val (.int p5), .val (.long q6), .second, .val (.int va8), .val (.int va9), .val (.long vd10), .second, .val (.int va12), .val (.int va13), .unset, .unset, .unset, .unset, .unset, .unset, .unset, .unset, .unset, .unset, .unset, .unset, .unset, .unset] [])) _
  refine XS.iload X0.here hx rfl (hb hby at_52) rfl ?_
  show Steps p.tables e below (T0.setTop (mkF m 54 #[.val (.int p1), .val (.int p2), .val (.long q3), .second, .val (.int p4), .val (.int p5), .val (.long q6), .second, .val (.int va8), .val (.int va9), .val (.long vd10), .second, .val (.int va12), .val (.int va13), .unset, .unset, .unset, .unset, .unset, .unset, .unset, .unset, .unset, .unset, .unset, .unset, .unset, .unset] [(.int p5)])) _
  refine XS.iconst X0.here hx rfl (hb hby at_54) ?_
  show Steps p.tables e below (T0.setTop (mkF m 55 #[.val (.int p1), .val (.int p2), .val (.long q3), .second, .val (.int p4), .val (.int p5), .val (.long q6), .second, .val (.int va8), .val (.int va9), .val (.long vd10), .second, .val (.int va12), .val (.int va13), .unset, .unset, .unset, .unset, .unset, .unset, .unset, .unset, .unset, .unset, .unset, .unset, .unset, .unset] [(.int (4 : Int32)), (.int p5)])) _
  refine XS.iand X0.here hx rfl (hb hby at_55) rfl ?_
  show Steps p.tables e below (T0.setTop (mkF m 56 #[.val (.int p1), .val (.int p2), .val (.long q3), .second, .val (.int p4), .val (.int p5), .val (.long q6), .second, .val (.int va8), .val (.int va9), .val (.long vd10), .second, .val (.int va12), .val (.int va13), .unset, .unset, .unset, .unset, .unset, .unset, .unset, .unset, .unset, .unset, .unset, .unset, .unset, .unset] [(.int (p5 &&& (4 : Int32)))])) _
  refine XS.ifNo X0.here hx rfl (hb hby at_56) rfl ((if0 _ _).trans (feq hc56).1) ?_
  show Steps p.tables e below (T0.setTop (mkF m 59 #[.val (.int p1), .val (.int p2), .val (.long q3), .second, .val (.int p4), .val (.int p5), .val (.long q6), .second, .val (.int va8), .val (.int va9), .val (.long vd10), .second, .val (.int va12), .val (.int va13), .unset, .unset, .unset, .unset, .unset, .unset, .unset, .unset, .unset, .unset, .unset, .unset, .unset, .unset] [])) _
  refine XS.iconst X0.here hx rfl (hb hby at_59) ?_
  show Steps p.tables e below (T0.setTop (mkF m 60 #[.val (.int p1), .val (.int p2), .val (.long q3), .second, .val (.int p4), .val (.int p5), .val (.long q6), .second, .val (.int va8), .val (.int va9), .val (.long vd10), .second, .val (.int va12), .val (.int va13), .unset, .unset, .unset, .unset, .unset, .unset, .unset, .unset, .unset, .unset, .unset, .unset, .unset, .unset] [(.int (1 : Int32))])) _
  refine XS.goto X0.here hx rfl (pc0 := 60) (pc' := 64) rfl (hb hby at_60) (by decide) (by decide) ?_
  show Steps p.tables e below (T0.setTop (mkF m 64 #[.val (.int p1), .val (.int p2), .val (.long q3), .second, .val (.int p4), .val (.int p5), .val (.long q6), .second, .val (.int va8), .val (.int va9), .val (.long vd10), .second, .val (.int va12), .val (.int va13), .unset, .unset, .unset, .unset, .unset, .unset, .unset, .unset, .unset, .unset, .unset, .unset, .unset, .unset] [(.int (1 : Int32))])) _
  refine XS.istore X0.here hx rfl (hb hby at_64) rfl (l' := #[.val (.int p1), .val (.int p2), .val (.long q3), .second, .val (.int p4), .val (.int p5), .val (.long q6), .second, .val (.int va8), .val (.int va9), .val (.long vd10), .second, .val (.int va12), .val (.int va13), .val (.int (1 : Int32)), .unset, .unset, .unset, .unset, .unset, .unset, .unset, .unset, .unset, .unset, .unset, .unset, .unset]) rfl ?_
  exact kt
theorem own_p52 {p : Program} {l : Launch} {e : Env} {R : Room} {s : State} {m : MethodId} {args : Array Value} {below : List Frame} {meth : Method} {c : Code} {T0 : State} {locs : List Loc} {cells slots : Nat} {Z : State} {a0 : Array Value} {h0 : Heap} (p1 : Int32) (p2 : Int32) (q3 : Int64) (p4 : Int32) (p5 : Int32) (q6 : Int64) (va8 : Int32) (va9 : Int32) (vd10 : Int64) (va12 : Int32) (va13 : Int32) (va14 : Int32) (hv : va14 = if (p5 &&& (4 : Int32)) = (0 : Int32) then (0 : Int32) else (1 : Int32))
    (X0 : Stand p l e R s m args below meth c T0 locs cells slots) (hx : p.tables.exec = Jvm.exec) (hZ : Z.Warmed39 s.vm) (hw : ∀ d ∈ tables_1, d.before a0 Z = true) (hby : c.code = code) (hml : c.maxLocals = 28) (hown : s.vm.findClass "com/example/crackline/crackline/SeenValuesAddPinLaw" = some m.cls) (e0 : T0.heap = h0) :
    ∃ (T' : State), Stand p l e R s m args below meth c T' locs cells slots ∧ T'.heap = h0 ∧
      ∀ target, Steps p.tables e below (T'.setTop (mkF m 66 #[.val (.int p1), .val (.int p2), .val (.long q3), .second, .val (.int p4), .val (.int p5), .val (.long q6), .second, .val (.int va8), .val (.int va9), .val (.long vd10), .second, .val (.int va12), .val (.int va13), .val (.int va14), .unset, .unset, .unset, .unset, .unset, .unset, .unset, .unset, .unset, .unset, .unset, .unset, .unset] [])) target → Steps p.tables e below (T0.setTop (mkF m 52 #[.val (.int p1), .val (.int p2), .val (.long q3), .second, .val (.int p4), .val (.int p5), .val (.long q6), .second, .val (.int va8), .val (.int va9), .val (.long vd10), .second, .val (.int va12), .val (.int va13), .unset, .unset, .unset, .unset, .unset, .unset, .unset, .unset, .unset, .unset, .unset, .unset, .unset, .unset] [])) target := by
  by_cases hcc : (p5 &&& (4 : Int32)) = (0 : Int32)
  · rw [if_pos hcc] at hv
    rw [hv]
    exact tn_52_t p1 p2 q3 p4 p5 q6 va8 va9 vd10 va12 va13 X0 hx hZ hw hby hml hown e0 hcc
  · rw [if_neg hcc] at hv
    rw [hv]
    exact tn_52_f p1 p2 q3 p4 p5 q6 va8 va9 vd10 va12 va13 X0 hx hZ hw hby hml hown e0 hcc
set_option maxRecDepth 65536 in
set_option maxHeartbeats 40000000 in
theorem tn_66_t {p : Program} {l : Launch} {e : Env} {R : Room} {s : State} {m : MethodId} {args : Array Value} {below : List Frame} {meth : Method} {c : Code} {T0 : State} {locs : List Loc} {cells slots : Nat} {Z : State} {a0 : Array Value} {h0 : Heap} (p1 : Int32) (p2 : Int32) (q3 : Int64) (p4 : Int32) (p5 : Int32) (q6 : Int64) (va8 : Int32) (va9 : Int32) (vd10 : Int64) (va12 : Int32) (va13 : Int32) (va14 : Int32)
    (X0 : Stand p l e R s m args below meth c T0 locs cells slots) (hx : p.tables.exec = Jvm.exec) (hZ : Z.Warmed39 s.vm) (hw : ∀ d ∈ tables_1, d.before a0 Z = true) (hby : c.code = code) (hml : c.maxLocals = 28) (hown : s.vm.findClass "com/example/crackline/crackline/SeenValuesAddPinLaw" = some m.cls) (e0 : T0.heap = h0) (hc68 : va12 = (0 : Int32)) :
    ∃ (T' : State), Stand p l e R s m args below meth c T' locs cells slots ∧ T'.heap = h0 ∧
      ∀ target, Steps p.tables e below (T'.setTop (mkF m 86 #[.val (.int p1), .val (.int p2), .val (.long q3), .second, .val (.int p4), .val (.int p5), .val (.long q6), .second, .val (.int va8), .val (.int va9), .val (.long vd10), .second, .val (.int va12), .val (.int va13), .val (.int va14), .val (.int (own_irem (p4 &&& (2147483647 : Int32)) (429496729 : Int32))), .unset, .unset, .unset, .unset, .unset, .unset, .unset, .unset, .unset, .unset, .unset, .unset] [])) target → Steps p.tables e below (T0.setTop (mkF m 66 #[.val (.int p1), .val (.int p2), .val (.long q3), .second, .val (.int p4), .val (.int p5), .val (.long q6), .second, .val (.int va8), .val (.int va9), .val (.long vd10), .second, .val (.int va12), .val (.int va13), .val (.int va14), .unset, .unset, .unset, .unset, .unset, .unset, .unset, .unset, .unset, .unset, .unset, .unset, .unset] [])) target := by
  refine ⟨T0, X0, e0, fun target kt => ?_⟩
  show Steps p.tables e below (T0.setTop (mkF m 66 #[.val (.int p1), .val (.int p2), .val (.long q3), .second, .val (.int p4), .val (.int p5), .val (.long q6), .second, .val (.int va8), .val (.int va9), .val (.long vd10), .second, .val (.int va12), .val (.int va13), .val (.int va14), .unset, .unset, .unset, .unset, .unset, .unset, .unset, .unset, .unset, .unset, .unset, .unset, .unset] [])) _
  refine XS.iload X0.here hx rfl (hb hby at_66) rfl ?_
  show Steps p.tables e below (T0.setTop (mkF m 68 #[.val (.int p1), .val (.int p2), .val (.long q3), .second, .val (.int p4), .val (.int p5), .val (.long q6), .second, .val (.int va8), .val (.int va9), .val (.long vd10), .second, .val (.int va12), .val (.int va13), .val (.int va14), .unset, .unset, .unset, .unset, .unset, .unset, .unset, .unset, .unset, .unset, .unset, .unset, .unset] [(.int va12)])) _
  refine XS.ifYes X0.here hx rfl (pc0 := 68) (pc' := 76) rfl (hb hby at_68) rfl ((if0 _ _).trans (teq hc68).1) (by decide) (by decide) ?_
  show Steps p.tables e below (T0.setTop (mkF m 76 #[.val (.int p1), .val (.int p2), .val (.long q3), .second, .val (.int p4), .val (.int p5), .val (.long q6), .second, .val (.int va8), .val (.int va9), .val (.long vd10), .second, .val (.int va12), .val (.int va13), .val (.int va14), .unset, .unset, .unset, .unset, .unset, .unset, .unset, .unset, .unset, .unset, .unset, .unset, .unset] [])) _
  refine XS.iload X0.here hx rfl (hb hby at_76) rfl ?_
  show Steps p.tables e below (T0.setTop (mkF m 78 #[.val (.int p1), .val (.int p2), .val (.long q3), .second, .val (.int p4), .val (.int p5), .val (.long q6), .second, .val (.int va8), .val (.int va9), .val (.long vd10), .second, .val (.int va12), .val (.int va13), .val (.int va14), .unset, .unset, .unset, .unset, .unset, .unset, .unset, .unset, .unset, .unset, .unset, .unset, .unset] [(.int p4)])) _
  refine X0.ldcInt hx hown (mvT hZ (hw _ (List.mem_of_getElem? (i := 0) rfl))) (g := (mkF m 78 #[.val (.int p1), .val (.int p2), .val (.long q3), .second, .val (.int p4), .val (.int p5), .val (.long q6), .second, .val (.int va8), .val (.int va9), .val (.long vd10), .second, .val (.int va12), .val (.int va13), .val (.int va14), .unset, .unset, .unset, .unset, .unset, .unset, .unset, .unset, .unset, .unset, .unset, .unset, .unset] [(.int p4)])) rfl (hb hby at_78) _ ?_
  show Steps p.tables e below (T0.setTop (mkF m 80 #[.val (.int p1), .val (.int p2), .val (.long q3), .second, .val (.int p4), .val (.int p5), .val (.long q6), .second, .val (.int va8), .val (.int va9), .val (.long vd10), .second, .val (.int va12), .val (.int va13), .val (.int va14), .unset, .unset, .unset, .unset, .unset, .unset, .unset, .unset, .unset, .unset, .unset, .unset, .unset] [(.int (2147483647 : Int32)), (.int p4)])) _
  refine XS.iand X0.here hx rfl (hb hby at_80) rfl ?_
  show Steps p.tables e below (T0.setTop (mkF m 81 #[.val (.int p1), .val (.int p2), .val (.long q3), .second, .val (.int p4), .val (.int p5), .val (.long q6), .second, .val (.int va8), .val (.int va9), .val (.long vd10), .second, .val (.int va12), .val (.int va13), .val (.int va14), .unset, .unset, .unset, .unset, .unset, .unset, .unset, .unset, .unset, .unset, .unset, .unset, .unset] [(.int (p4 &&& (2147483647 : Int32)))])) _
  refine X0.ldcInt hx hown (mvT hZ (hw _ (List.mem_of_getElem? (i := 1) rfl))) (g := (mkF m 81 #[.val (.int p1), .val (.int p2), .val (.long q3), .second, .val (.int p4), .val (.int p5), .val (.long q6), .second, .val (.int va8), .val (.int va9), .val (.long vd10), .second, .val (.int va12), .val (.int va13), .val (.int va14), .unset, .unset, .unset, .unset, .unset, .unset, .unset, .unset, .unset, .unset, .unset, .unset, .unset] [(.int (p4 &&& (2147483647 : Int32)))])) rfl (hb hby at_81) _ ?_
  show Steps p.tables e below (T0.setTop (mkF m 83 #[.val (.int p1), .val (.int p2), .val (.long q3), .second, .val (.int p4), .val (.int p5), .val (.long q6), .second, .val (.int va8), .val (.int va9), .val (.long vd10), .second, .val (.int va12), .val (.int va13), .val (.int va14), .unset, .unset, .unset, .unset, .unset, .unset, .unset, .unset, .unset, .unset, .unset, .unset, .unset] [(.int (429496729 : Int32)), (.int (p4 &&& (2147483647 : Int32)))])) _
  refine XS.irem X0.here hx rfl (hb hby at_83) rfl (by decide) ?_
  show Steps p.tables e below (T0.setTop (mkF m 84 #[.val (.int p1), .val (.int p2), .val (.long q3), .second, .val (.int p4), .val (.int p5), .val (.long q6), .second, .val (.int va8), .val (.int va9), .val (.long vd10), .second, .val (.int va12), .val (.int va13), .val (.int va14), .unset, .unset, .unset, .unset, .unset, .unset, .unset, .unset, .unset, .unset, .unset, .unset, .unset] [(.int (own_irem (p4 &&& (2147483647 : Int32)) (429496729 : Int32)))])) _
  refine XS.istore X0.here hx rfl (hb hby at_84) rfl (l' := #[.val (.int p1), .val (.int p2), .val (.long q3), .second, .val (.int p4), .val (.int p5), .val (.long q6), .second, .val (.int va8), .val (.int va9), .val (.long vd10), .second, .val (.int va12), .val (.int va13), .val (.int va14), .val (.int (own_irem (p4 &&& (2147483647 : Int32)) (429496729 : Int32))), .unset, .unset, .unset, .unset, .unset, .unset, .unset, .unset, .unset, .unset, .unset, .unset]) rfl ?_
  exact kt
set_option maxRecDepth 65536 in
set_option maxHeartbeats 40000000 in
theorem tn_66_f {p : Program} {l : Launch} {e : Env} {R : Room} {s : State} {m : MethodId} {args : Array Value} {below : List Frame} {meth : Method} {c : Code} {T0 : State} {locs : List Loc} {cells slots : Nat} {Z : State} {a0 : Array Value} {h0 : Heap} (p1 : Int32) (p2 : Int32) (q3 : Int64) (p4 : Int32) (p5 : Int32) (q6 : Int64) (va8 : Int32) (va9 : Int32) (vd10 : Int64) (va12 : Int32) (va13 : Int32) (va14 : Int32)
    (X0 : Stand p l e R s m args below meth c T0 locs cells slots) (hx : p.tables.exec = Jvm.exec) (hZ : Z.Warmed39 s.vm) (hw : ∀ d ∈ tables_1, d.before a0 Z = true) (hby : c.code = code) (hml : c.maxLocals = 28) (hown : s.vm.findClass "com/example/crackline/crackline/SeenValuesAddPinLaw" = some m.cls) (e0 : T0.heap = h0) (hc68 : ¬ (va12 = (0 : Int32))) :
    ∃ (T' : State), Stand p l e R s m args below meth c T' locs cells slots ∧ T'.heap = h0 ∧
      ∀ target, Steps p.tables e below (T'.setTop (mkF m 86 #[.val (.int p1), .val (.int p2), .val (.long q3), .second, .val (.int p4), .val (.int p5), .val (.long q6), .second, .val (.int va8), .val (.int va9), .val (.long vd10), .second, .val (.int va12), .val (.int va13), .val (.int va14), .val (.int va8), .unset, .unset, .unset, .unset, .unset, .unset, .unset, .unset, .unset, .unset, .unset, .unset] [])) target → Steps p.tables e below (T0.setTop (mkF m 66 #[.val (.int p1), .val (.int p2), .val (.long q3), .second, .val (.int p4), .val (.int p5), .val (.long q6), .second, .val (.int va8), .val (.int va9), .val (.long vd10), .second, .val (.int va12), .val (.int va13), .val (.int va14), .unset, .unset, .unset, .unset, .unset, .unset, .unset, .unset, .unset, .unset, .unset, .unset, .unset] [])) target := by
  refine ⟨T0, X0, e0, fun target kt => ?_⟩
  show Steps p.tables e below (T0.setTop (mkF m 66 #[.val (.int p1), .val (.int p2), .val (.long q3), .second, .val (.int p4), .val (.int p5), .val (.long q6), .second, .val (.int va8), .val (.int va9), .val (.long vd10), .second, .val (.int va12), .val (.int va13), .val (.int va14), .unset, .unset, .unset, .unset, .unset, .unset, .unset, .unset, .unset, .unset, .unset, .unset, .unset] [])) _
  refine XS.iload X0.here hx rfl (hb hby at_66) rfl ?_
  show Steps p.tables e below (T0.setTop (mkF m 68 #[.val (.int p1), .val (.int p2), .val (.long q3), .second, .val (.int p4), .val (.int p5), .val (.long q6), .second, .val (.int va8), .val (.int va9), .val (.long vd10), .second, .val (.int va12), .val (.int va13), .val (.int va14), .unset, .unset, .unset, .unset, .unset, .unset, .unset, .unset, .unset, .unset, .unset, .unset, .unset] [(.int va12)])) _
  refine XS.ifNo X0.here hx rfl (hb hby at_68) rfl ((if0 _ _).trans (feq hc68).1) ?_
  show Steps p.tables e below (T0.setTop (mkF m 71 #[.val (.int p1), .val (.int p2), .val (.long q3), .second, .val (.int p4), .val (.int p5), .val (.long q6), .second, .val (.int va8), .val (.int va9), .val (.long vd10), .second, .val (.int va12), .val (.int va13), .val (.int va14), .unset, .unset, .unset, .unset, .unset, .unset, .unset, .unset, .unset, .unset, .unset, .unset, .unset] [])) _
  refine XS.iload X0.here hx rfl (hb hby at_71) rfl ?_
  show Steps p.tables e below (T0.setTop (mkF m 73 #[.val (.int p1), .val (.int p2), .val (.long q3), .second, .val (.int p4), .val (.int p5), .val (.long q6), .second, .val (.int va8), .val (.int va9), .val (.long vd10), .second, .val (.int va12), .val (.int va13), .val (.int va14), .unset, .unset, .unset, .unset, .unset, .unset, .unset, .unset, .unset, .unset, .unset, .unset, .unset] [(.int va8)])) _
  refine XS.goto X0.here hx rfl (pc0 := 73) (pc' := 84) rfl (hb hby at_73) (by decide) (by decide) ?_
  show Steps p.tables e below (T0.setTop (mkF m 84 #[.val (.int p1), .val (.int p2), .val (.long q3), .second, .val (.int p4), .val (.int p5), .val (.long q6), .second, .val (.int va8), .val (.int va9), .val (.long vd10), .second, .val (.int va12), .val (.int va13), .val (.int va14), .unset, .unset, .unset, .unset, .unset, .unset, .unset, .unset, .unset, .unset, .unset, .unset, .unset] [(.int va8)])) _
  refine XS.istore X0.here hx rfl (hb hby at_84) rfl (l' := #[.val (.int p1), .val (.int p2), .val (.long q3), .second, .val (.int p4), .val (.int p5), .val (.long q6), .second, .val (.int va8), .val (.int va9), .val (.long vd10), .second, .val (.int va12), .val (.int va13), .val (.int va14), .val (.int va8), .unset, .unset, .unset, .unset, .unset, .unset, .unset, .unset, .unset, .unset, .unset, .unset]) rfl ?_
  exact kt
theorem own_p66 {p : Program} {l : Launch} {e : Env} {R : Room} {s : State} {m : MethodId} {args : Array Value} {below : List Frame} {meth : Method} {c : Code} {T0 : State} {locs : List Loc} {cells slots : Nat} {Z : State} {a0 : Array Value} {h0 : Heap} (p1 : Int32) (p2 : Int32) (q3 : Int64) (p4 : Int32) (p5 : Int32) (q6 : Int64) (va8 : Int32) (va9 : Int32) (vd10 : Int64) (va12 : Int32) (va13 : Int32) (va14 : Int32) (va15 : Int32) (hv : va15 = if va12 = (0 : Int32) then (own_irem (p4 &&& (2147483647 : Int32)) (429496729 : Int32)) else va8)
    (X0 : Stand p l e R s m args below meth c T0 locs cells slots) (hx : p.tables.exec = Jvm.exec) (hZ : Z.Warmed39 s.vm) (hw : ∀ d ∈ tables_1, d.before a0 Z = true) (hby : c.code = code) (hml : c.maxLocals = 28) (hown : s.vm.findClass "com/example/crackline/crackline/SeenValuesAddPinLaw" = some m.cls) (e0 : T0.heap = h0) :
    ∃ (T' : State), Stand p l e R s m args below meth c T' locs cells slots ∧ T'.heap = h0 ∧
      ∀ target, Steps p.tables e below (T'.setTop (mkF m 86 #[.val (.int p1), .val (.int p2), .val (.long q3), .second, .val (.int p4), .val (.int p5), .val (.long q6), .second, .val (.int va8), .val (.int va9), .val (.long vd10), .second, .val (.int va12), .val (.int va13), .val (.int va14), .val (.int va15), .unset, .unset, .unset, .unset, .unset, .unset, .unset, .unset, .unset, .unset, .unset, .unset] [])) target → Steps p.tables e below (T0.setTop (mkF m 66 #[.val (.int p1), .val (.int p2), .val (.long q3), .second, .val (.int p4), .val (.int p5), .val (.long q6), .second, .val (.int va8), .val (.int va9), .val (.long vd10), .second, .val (.int va12), .val (.int va13), .val (.int va14), .unset, .unset, .unset, .unset, .unset, .unset, .unset, .unset, .unset, .unset, .unset, .unset, .unset] [])) target := by
  by_cases hcc : va12 = (0 : Int32)
  · rw [if_pos hcc] at hv
    rw [hv]
    exact tn_66_t p1 p2 q3 p4 p5 q6 va8 va9 vd10 va12 va13 va14 X0 hx hZ hw hby hml hown e0 hcc
  · rw [if_neg hcc] at hv
    rw [hv]
    exact tn_66_f p1 p2 q3 p4 p5 q6 va8 va9 vd10 va12 va13 va14 X0 hx hZ hw hby hml hown e0 hcc
set_option maxRecDepth 65536 in
set_option maxHeartbeats 40000000 in
theorem tn_86_t {p : Program} {l : Launch} {e : Env} {R : Room} {s : State} {m : MethodId} {args : Array Value} {below : List Frame} {meth : Method} {c : Code} {T0 : State} {locs : List Loc} {cells slots : Nat} {Z : State} {a0 : Array Value} {h0 : Heap} (p1 : Int32) (p2 : Int32) (q3 : Int64) (p4 : Int32) (p5 : Int32) (q6 : Int64) (va8 : Int32) (va9 : Int32) (vd10 : Int64) (va12 : Int32) (va13 : Int32) (va14 : Int32) (va15 : Int32)
    (X0 : Stand p l e R s m args below meth c T0 locs cells slots) (hx : p.tables.exec = Jvm.exec) (hZ : Z.Warmed39 s.vm) (hw : ∀ d ∈ tables_1, d.before a0 Z = true) (hby : c.code = code) (hml : c.maxLocals = 28) (hown : s.vm.findClass "com/example/crackline/crackline/SeenValuesAddPinLaw" = some m.cls) (e0 : T0.heap = h0) (hc88 : va13 = (0 : Int32)) :
    ∃ (T' : State), Stand p l e R s m args below meth c T' locs cells slots ∧ T'.heap = h0 ∧
      ∀ target, Steps p.tables e below (T'.setTop (mkF m 104 #[.val (.int p1), .val (.int p2), .val (.long q3), .second, .val (.int p4), .val (.int p5), .val (.long q6), .second, .val (.int va8), .val (.int va9), .val (.long vd10), .second, .val (.int va12), .val (.int va13), .val (.int va14), .val (.int va15), .val (.int (own_irem ((p5.toUInt32 >>> ((3 : Int32) &&& 31).toUInt32).toInt32) (5 : Int32))), .unset, .unset, .unset, .unset, .unset, .unset, .unset, .unset, .unset, .unset, .unset] [])) target → Steps p.tables e below (T0.setTop (mkF m 86 #[.val (.int p1), .val (.int p2), .val (.long q3), .second, .val (.int p4), .val (.int p5), .val (.long q6), .second, .val (.int va8), .val (.int va9), .val (.long vd10), .second, .val (.int va12), .val (.int va13), .val (.int va14), .val (.int va15), .unset, .unset, .unset, .unset, .unset, .unset, .unset, .unset, .unset, .unset, .unset, .unset] [])) target := by
  refine ⟨T0, X0, e0, fun target kt => ?_⟩
  show Steps p.tables e below (T0.setTop (mkF m 86 #[.val (.int p1), .val (.int p2), .val (.long q3), .second, .val (.int p4), .val (.int p5), .val (.long q6), .second, .val (.int va8), .val (.int va9), .val (.long vd10), .second, .val (.int va12), .val (.int va13), .val (.int va14), .val (.int va15), .unset, .unset, .unset, .unset, .unset, .unset, .unset, .unset, .unset, .unset, .unset, .unset] [])) _
  refine XS.iload X0.here hx rfl (hb hby at_86) rfl ?_
  show Steps p.tables e below (T0.setTop (mkF m 88 #[.val (.int p1), .val (.int p2), .val (.long q3), .second, .val (.int p4), .val (.int p5), .val (.long q6), .second, .val (.int va8), .val (.int va9), .val (.long vd10), .second, .val (.int va12), .val (.int va13), .val (.int va14), .val (.int va15), .unset, .unset, .unset, .unset, .unset, .unset, .unset, .unset, .unset, .unset, .unset, .unset] [(.int va13)])) _
  refine XS.ifYes X0.here hx rfl (pc0 := 88) (pc' := 96) rfl (hb hby at_88) rfl ((if0 _ _).trans (teq hc88).1) (by decide) (by decide) ?_
  show Steps p.tables e below (T0.setTop (mkF m 96 #[.val (.int p1), .val (.int p2), .val (.long q3), .second, .val (.int p4), .val (.int p5), .val (.long q6), .second, .val (.int va8), .val (.int va9), .val (.long vd10), .second, .val (.int va12), .val (.int va13), .val (.int va14), .val (.int va15), .unset, .unset, .unset, .unset, .unset, .unset, .unset, .unset, .unset, .unset, .unset, .unset] [])) _
  refine XS.iload X0.here hx rfl (hb hby at_96) rfl ?_
  show Steps p.tables e below (T0.setTop (mkF m 98 #[.val (.int p1), .val (.int p2), .val (.long q3), .second, .val (.int p4), .val (.int p5), .val (.long q6), .second, .val (.int va8), .val (.int va9), .val (.long vd10), .second, .val (.int va12), .val (.int va13), .val (.int va14), .val (.int va15), .unset, .unset, .unset, .unset, .unset, .unset, .unset, .unset, .unset, .unset, .unset, .unset] [(.int p5)])) _
  refine XS.iconst X0.here hx rfl (hb hby at_98) ?_
  show Steps p.tables e below (T0.setTop (mkF m 99 #[.val (.int p1), .val (.int p2), .val (.long q3), .second, .val (.int p4), .val (.int p5), .val (.long q6), .second, .val (.int va8), .val (.int va9), .val (.long vd10), .second, .val (.int va12), .val (.int va13), .val (.int va14), .val (.int va15), .unset, .unset, .unset, .unset, .unset, .unset, .unset, .unset, .unset, .unset, .unset, .unset] [(.int (3 : Int32)), (.int p5)])) _
  refine XS.iushr X0.here hx rfl (hb hby at_99) rfl ?_
  show Steps p.tables e below (T0.setTop (mkF m 100 #[.val (.int p1), .val (.int p2), .val (.long q3), .second, .val (.int p4), .val (.int p5), .val (.long q6), .second, .val (.int va8), .val (.int va9), .val (.long vd10), .second, .val (.int va12), .val (.int va13), .val (.int va14), .val (.int va15), .unset, .unset, .unset, .unset, .unset, .unset, .unset, .unset, .unset, .unset, .unset, .unset] [(.int ((p5.toUInt32 >>> ((3 : Int32) &&& 31).toUInt32).toInt32))])) _
  refine XS.iconst X0.here hx rfl (hb hby at_100) ?_
  show Steps p.tables e below (T0.setTop (mkF m 101 #[.val (.int p1), .val (.int p2), .val (.long q3), .second, .val (.int p4), .val (.int p5), .val (.long q6), .second, .val (.int va8), .val (.int va9), .val (.long vd10), .second, .val (.int va12), .val (.int va13), .val (.int va14), .val (.int va15), .unset, .unset, .unset, .unset, .unset, .unset, .unset, .unset, .unset, .unset, .unset, .unset] [(.int (5 : Int32)), (.int ((p5.toUInt32 >>> ((3 : Int32) &&& 31).toUInt32).toInt32))])) _
  refine XS.irem X0.here hx rfl (hb hby at_101) rfl (by decide) ?_
  show Steps p.tables e below (T0.setTop (mkF m 102 #[.val (.int p1), .val (.int p2), .val (.long q3), .second, .val (.int p4), .val (.int p5), .val (.long q6), .second, .val (.int va8), .val (.int va9), .val (.long vd10), .second, .val (.int va12), .val (.int va13), .val (.int va14), .val (.int va15), .unset, .unset, .unset, .unset, .unset, .unset, .unset, .unset, .unset, .unset, .unset, .unset] [(.int (own_irem ((p5.toUInt32 >>> ((3 : Int32) &&& 31).toUInt32).toInt32) (5 : Int32)))])) _
  refine XS.istore X0.here hx rfl (hb hby at_102) rfl (l' := #[.val (.int p1), .val (.int p2), .val (.long q3), .second, .val (.int p4), .val (.int p5), .val (.long q6), .second, .val (.int va8), .val (.int va9), .val (.long vd10), .second, .val (.int va12), .val (.int va13), .val (.int va14), .val (.int va15), .val (.int (own_irem ((p5.toUInt32 >>> ((3 : Int32) &&& 31).toUInt32).toInt32) (5 : Int32))), .unset, .unset, .unset, .unset, .unset, .unset, .unset, .unset, .unset, .unset, .unset]) rfl ?_
  exact kt
set_option maxRecDepth 65536 in
set_option maxHeartbeats 40000000 in
theorem tn_86_f {p : Program} {l : Launch} {e : Env} {R : Room} {s : State} {m : MethodId} {args : Array Value} {below : List Frame} {meth : Method} {c : Code} {T0 : State} {locs : List Loc} {cells slots : Nat} {Z : State} {a0 : Array Value} {h0 : Heap} (p1 : Int32) (p2 : Int32) (q3 : Int64) (p4 : Int32) (p5 : Int32) (q6 : Int64) (va8 : Int32) (va9 : Int32) (vd10 : Int64) (va12 : Int32) (va13 : Int32) (va14 : Int32) (va15 : Int32)
    (X0 : Stand p l e R s m args below meth c T0 locs cells slots) (hx : p.tables.exec = Jvm.exec) (hZ : Z.Warmed39 s.vm) (hw : ∀ d ∈ tables_1, d.before a0 Z = true) (hby : c.code = code) (hml : c.maxLocals = 28) (hown : s.vm.findClass "com/example/crackline/crackline/SeenValuesAddPinLaw" = some m.cls) (e0 : T0.heap = h0) (hc88 : ¬ (va13 = (0 : Int32))) :
    ∃ (T' : State), Stand p l e R s m args below meth c T' locs cells slots ∧ T'.heap = h0 ∧
      ∀ target, Steps p.tables e below (T'.setTop (mkF m 104 #[.val (.int p1), .val (.int p2), .val (.long q3), .second, .val (.int p4), .val (.int p5), .val (.long q6), .second, .val (.int va8), .val (.int va9), .val (.long vd10), .second, .val (.int va12), .val (.int va13), .val (.int va14), .val (.int va15), .val (.int va9), .unset, .unset, .unset, .unset, .unset, .unset, .unset, .unset, .unset, .unset, .unset] [])) target → Steps p.tables e below (T0.setTop (mkF m 86 #[.val (.int p1), .val (.int p2), .val (.long q3), .second, .val (.int p4), .val (.int p5), .val (.long q6), .second, .val (.int va8), .val (.int va9), .val (.long vd10), .second, .val (.int va12), .val (.int va13), .val (.int va14), .val (.int va15), .unset, .unset, .unset, .unset, .unset, .unset, .unset, .unset, .unset, .unset, .unset, .unset] [])) target := by
  refine ⟨T0, X0, e0, fun target kt => ?_⟩
  show Steps p.tables e below (T0.setTop (mkF m 86 #[.val (.int p1), .val (.int p2), .val (.long q3), .second, .val (.int p4), .val (.int p5), .val (.long q6), .second, .val (.int va8), .val (.int va9), .val (.long vd10), .second, .val (.int va12), .val (.int va13), .val (.int va14), .val (.int va15), .unset, .unset, .unset, .unset, .unset, .unset, .unset, .unset, .unset, .unset, .unset, .unset] [])) _
  refine XS.iload X0.here hx rfl (hb hby at_86) rfl ?_
  show Steps p.tables e below (T0.setTop (mkF m 88 #[.val (.int p1), .val (.int p2), .val (.long q3), .second, .val (.int p4), .val (.int p5), .val (.long q6), .second, .val (.int va8), .val (.int va9), .val (.long vd10), .second, .val (.int va12), .val (.int va13), .val (.int va14), .val (.int va15), .unset, .unset, .unset, .unset, .unset, .unset, .unset, .unset, .unset, .unset, .unset, .unset] [(.int va13)])) _
  refine XS.ifNo X0.here hx rfl (hb hby at_88) rfl ((if0 _ _).trans (feq hc88).1) ?_
  show Steps p.tables e below (T0.setTop (mkF m 91 #[.val (.int p1), .val (.int p2), .val (.long q3), .second, .val (.int p4), .val (.int p5), .val (.long q6), .second, .val (.int va8), .val (.int va9), .val (.long vd10), .second, .val (.int va12), .val (.int va13), .val (.int va14), .val (.int va15), .unset, .unset, .unset, .unset, .unset, .unset, .unset, .unset, .unset, .unset, .unset, .unset] [])) _
  refine XS.iload X0.here hx rfl (hb hby at_91) rfl ?_
  show Steps p.tables e below (T0.setTop (mkF m 93 #[.val (.int p1), .val (.int p2), .val (.long q3), .second, .val (.int p4), .val (.int p5), .val (.long q6), .second, .val (.int va8), .val (.int va9), .val (.long vd10), .second, .val (.int va12), .val (.int va13), .val (.int va14), .val (.int va15), .unset, .unset, .unset, .unset, .unset, .unset, .unset, .unset, .unset, .unset, .unset, .unset] [(.int va9)])) _
  refine XS.goto X0.here hx rfl (pc0 := 93) (pc' := 102) rfl (hb hby at_93) (by decide) (by decide) ?_
  show Steps p.tables e below (T0.setTop (mkF m 102 #[.val (.int p1), .val (.int p2), .val (.long q3), .second, .val (.int p4), .val (.int p5), .val (.long q6), .second, .val (.int va8), .val (.int va9), .val (.long vd10), .second, .val (.int va12), .val (.int va13), .val (.int va14), .val (.int va15), .unset, .unset, .unset, .unset, .unset, .unset, .unset, .unset, .unset, .unset, .unset, .unset] [(.int va9)])) _
  refine XS.istore X0.here hx rfl (hb hby at_102) rfl (l' := #[.val (.int p1), .val (.int p2), .val (.long q3), .second, .val (.int p4), .val (.int p5), .val (.long q6), .second, .val (.int va8), .val (.int va9), .val (.long vd10), .second, .val (.int va12), .val (.int va13), .val (.int va14), .val (.int va15), .val (.int va9), .unset, .unset, .unset, .unset, .unset, .unset, .unset, .unset, .unset, .unset, .unset]) rfl ?_
  exact kt
theorem own_p86 {p : Program} {l : Launch} {e : Env} {R : Room} {s : State} {m : MethodId} {args : Array Value} {below : List Frame} {meth : Method} {c : Code} {T0 : State} {locs : List Loc} {cells slots : Nat} {Z : State} {a0 : Array Value} {h0 : Heap} (p1 : Int32) (p2 : Int32) (q3 : Int64) (p4 : Int32) (p5 : Int32) (q6 : Int64) (va8 : Int32) (va9 : Int32) (vd10 : Int64) (va12 : Int32) (va13 : Int32) (va14 : Int32) (va15 : Int32) (va16 : Int32) (hv : va16 = if va13 = (0 : Int32) then (own_irem ((p5.toUInt32 >>> ((3 : Int32) &&& 31).toUInt32).toInt32) (5 : Int32)) else va9)
    (X0 : Stand p l e R s m args below meth c T0 locs cells slots) (hx : p.tables.exec = Jvm.exec) (hZ : Z.Warmed39 s.vm) (hw : ∀ d ∈ tables_1, d.before a0 Z = true) (hby : c.code = code) (hml : c.maxLocals = 28) (hown : s.vm.findClass "com/example/crackline/crackline/SeenValuesAddPinLaw" = some m.cls) (e0 : T0.heap = h0) :
    ∃ (T' : State), Stand p l e R s m args below meth c T' locs cells slots ∧ T'.heap = h0 ∧
      ∀ target, Steps p.tables e below (T'.setTop (mkF m 104 #[.val (.int p1), .val (.int p2), .val (.long q3), .second, .val (.int p4), .val (.int p5), .val (.long q6), .second, .val (.int va8), .val (.int va9), .val (.long vd10), .second, .val (.int va12), .val (.int va13), .val (.int va14), .val (.int va15), .val (.int va16), .unset, .unset, .unset, .unset, .unset, .unset, .unset, .unset, .unset, .unset, .unset] [])) target → Steps p.tables e below (T0.setTop (mkF m 86 #[.val (.int p1), .val (.int p2), .val (.long q3), .second, .val (.int p4), .val (.int p5), .val (.long q6), .second, .val (.int va8), .val (.int va9), .val (.long vd10), .second, .val (.int va12), .val (.int va13), .val (.int va14), .val (.int va15), .unset, .unset, .unset, .unset, .unset, .unset, .unset, .unset, .unset, .unset, .unset, .unset] [])) target := by
  by_cases hcc : va13 = (0 : Int32)
  · rw [if_pos hcc] at hv
    rw [hv]
    exact tn_86_t p1 p2 q3 p4 p5 q6 va8 va9 vd10 va12 va13 va14 va15 X0 hx hZ hw hby hml hown e0 hcc
  · rw [if_neg hcc] at hv
    rw [hv]
    exact tn_86_f p1 p2 q3 p4 p5 q6 va8 va9 vd10 va12 va13 va14 va15 X0 hx hZ hw hby hml hown e0 hcc
set_option maxRecDepth 65536 in
set_option maxHeartbeats 40000000 in
theorem tn_104_t {p : Program} {l : Launch} {e : Env} {R : Room} {s : State} {m : MethodId} {args : Array Value} {below : List Frame} {meth : Method} {c : Code} {T0 : State} {locs : List Loc} {cells slots : Nat} {Z : State} {a0 : Array Value} {h0 : Heap} (p1 : Int32) (p2 : Int32) (q3 : Int64) (p4 : Int32) (p5 : Int32) (q6 : Int64) (va8 : Int32) (va9 : Int32) (vd10 : Int64) (va12 : Int32) (va13 : Int32) (va14 : Int32) (va15 : Int32) (va16 : Int32)
    (X0 : Stand p l e R s m args below meth c T0 locs cells slots) (hx : p.tables.exec = Jvm.exec) (hZ : Z.Warmed39 s.vm) (hw : ∀ d ∈ tables_1, d.before a0 Z = true) (hby : c.code = code) (hml : c.maxLocals = 28) (hown : s.vm.findClass "com/example/crackline/crackline/SeenValuesAddPinLaw" = some m.cls) (e0 : T0.heap = h0) (hc106 : va14 = (0 : Int32)) :
    ∃ (T' : State), Stand p l e R s m args below meth c T' locs cells slots ∧ T'.heap = h0 ∧
      ∀ target, Steps p.tables e below (T'.setTop (mkF m 133 #[.val (.int p1), .val (.int p2), .val (.long q3), .second, .val (.int p4), .val (.int p5), .val (.long q6), .second, .val (.int va8), .val (.int va9), .val (.long vd10), .second, .val (.int va12), .val (.int va13), .val (.int va14), .val (.int va15), .val (.int va16), .val (.long (own_lrem q6 (68719476736 : Int64))), .second, .unset, .unset, .unset, .unset, .unset, .unset, .unset, .unset, .unset] [])) target → Steps p.tables e below (T0.setTop (mkF m 104 #[.val (.int p1), .val (.int p2), .val (.long q3), .second, .val (.int p4), .val (.int p5), .val (.long q6), .second, .val (.int va8), .val (.int va9), .val (.long vd10), .second, .val (.int va12), .val (.int va13), .val (.int va14), .val (.int va15), .val (.int va16), .unset, .unset, .unset, .unset, .unset, .unset, .unset, .unset, .unset, .unset, .unset] [])) target := by
  refine ⟨T0, X0, e0, fun target kt => ?_⟩
  show Steps p.tables e below (T0.setTop (mkF m 104 #[.val (.int p1), .val (.int p2), .val (.long q3), .second, .val (.int p4), .val (.int p5), .val (.long q6), .second, .val (.int va8), .val (.int va9), .val (.long vd10), .second, .val (.int va12), .val (.int va13), .val (.int va14), .val (.int va15), .val (.int va16), .unset, .unset, .unset, .unset, .unset, .unset, .unset, .unset, .unset, .unset, .unset] [])) _
  refine XS.iload X0.here hx rfl (hb hby at_104) rfl ?_
  show Steps p.tables e below (T0.setTop (mkF m 106 #[.val (.int p1), .val (.int p2), .val (.long q3), .second, .val (.int p4), .val (.int p5), .val (.long q6), .second, .val (.int va8), .val (.int va9), .val (.long vd10), .second, .val (.int va12), .val (.int va13), .val (.int va14), .val (.int va15), .val (.int va16), .unset, .unset, .unset, .unset, .unset, .unset, .unset, .unset, .unset, .unset, .unset] [(.int va14)])) _
  refine XS.ifYes X0.here hx rfl (pc0 := 106) (pc' := 125) rfl (hb hby at_106) rfl ((if0 _ _).trans (teq hc106).1) (by decide) (by decide) ?_
  show Steps p.tables e below (T0.setTop (mkF m 125 #[.val (.int p1), .val (.int p2), .val (.long q3), .second, .val (.int p4), .val (.int p5), .val (.long q6), .second, .val (.int va8), .val (.int va9), .val (.long vd10), .second, .val (.int va12), .val (.int va13), .val (.int va14), .val (.int va15), .val (.int va16), .unset, .unset, .unset, .unset, .unset, .unset, .unset, .unset, .unset, .unset, .unset] [])) _
  refine XS.lload X0.here hx rfl (hb hby at_125) rfl ?_
  show Steps p.tables e below (T0.setTop (mkF m 127 #[.val (.int p1), .val (.int p2), .val (.long q3), .second, .val (.int p4), .val (.int p5), .val (.long q6), .second, .val (.int va8), .val (.int va9), .val (.long vd10), .second, .val (.int va12), .val (.int va13), .val (.int va14), .val (.int va15), .val (.int va16), .unset, .unset, .unset, .unset, .unset, .unset, .unset, .unset, .unset, .unset, .unset] [(.long q6)])) _
  refine X0.ldc2Long hx hown (mvT hZ (hw _ (List.mem_of_getElem? (i := 2) rfl))) (g := (mkF m 127 #[.val (.int p1), .val (.int p2), .val (.long q3), .second, .val (.int p4), .val (.int p5), .val (.long q6), .second, .val (.int va8), .val (.int va9), .val (.long vd10), .second, .val (.int va12), .val (.int va13), .val (.int va14), .val (.int va15), .val (.int va16), .unset, .unset, .unset, .unset, .unset, .unset, .unset, .unset, .unset, .unset, .unset] [(.long q6)])) rfl (hb hby at_127) _ ?_
  show Steps p.tables e below (T0.setTop (mkF m 130 #[.val (.int p1), .val (.int p2), .val (.long q3), .second, .val (.int p4), .val (.int p5), .val (.long q6), .second, .val (.int va8), .val (.int va9), .val (.long vd10), .second, .val (.int va12), .val (.int va13), .val (.int va14), .val (.int va15), .val (.int va16), .unset, .unset, .unset, .unset, .unset, .unset, .unset, .unset, .unset, .unset, .unset] [(.long (68719476736 : Int64)), (.long q6)])) _
  refine XS.lrem X0.here hx rfl (hb hby at_130) rfl (by decide) ?_
  show Steps p.tables e below (T0.setTop (mkF m 131 #[.val (.int p1), .val (.int p2), .val (.long q3), .second, .val (.int p4), .val (.int p5), .val (.long q6), .second, .val (.int va8), .val (.int va9), .val (.long vd10), .second, .val (.int va12), .val (.int va13), .val (.int va14), .val (.int va15), .val (.int va16), .unset, .unset, .unset, .unset, .unset, .unset, .unset, .unset, .unset, .unset, .unset] [(.long (own_lrem q6 (68719476736 : Int64)))])) _
  refine XS.lstore X0.here hx rfl (hb hby at_131) rfl (l' := #[.val (.int p1), .val (.int p2), .val (.long q3), .second, .val (.int p4), .val (.int p5), .val (.long q6), .second, .val (.int va8), .val (.int va9), .val (.long vd10), .second, .val (.int va12), .val (.int va13), .val (.int va14), .val (.int va15), .val (.int va16), .val (.long (own_lrem q6 (68719476736 : Int64))), .second, .unset, .unset, .unset, .unset, .unset, .unset, .unset, .unset, .unset]) rfl ?_
  exact kt
set_option maxRecDepth 65536 in
set_option maxHeartbeats 40000000 in
theorem tn_104_f {p : Program} {l : Launch} {e : Env} {R : Room} {s : State} {m : MethodId} {args : Array Value} {below : List Frame} {meth : Method} {c : Code} {T0 : State} {locs : List Loc} {cells slots : Nat} {Z : State} {a0 : Array Value} {h0 : Heap} (p1 : Int32) (p2 : Int32) (q3 : Int64) (p4 : Int32) (p5 : Int32) (q6 : Int64) (va8 : Int32) (va9 : Int32) (vd10 : Int64) (va12 : Int32) (va13 : Int32) (va14 : Int32) (va15 : Int32) (va16 : Int32)
    (X0 : Stand p l e R s m args below meth c T0 locs cells slots) (hx : p.tables.exec = Jvm.exec) (hZ : Z.Warmed39 s.vm) (hw : ∀ d ∈ tables_1, d.before a0 Z = true) (hby : c.code = code) (hml : c.maxLocals = 28) (hown : s.vm.findClass "com/example/crackline/crackline/SeenValuesAddPinLaw" = some m.cls) (e0 : T0.heap = h0) (hc106 : ¬ (va14 = (0 : Int32))) :
    ∃ (T' : State), Stand p l e R s m args below meth c T' locs cells slots ∧ T'.heap = h0 ∧
      ∀ target, Steps p.tables e below (T'.setTop (mkF m 133 #[.val (.int p1), .val (.int p2), .val (.long q3), .second, .val (.int p4), .val (.int p5), .val (.long q6), .second, .val (.int va8), .val (.int va9), .val (.long vd10), .second, .val (.int va12), .val (.int va13), .val (.int va14), .val (.int va15), .val (.int va16), .val (.long (vd10 + ((q6 &&& (255 : Int64)) - (128 : Int64)))), .second, .unset, .unset, .unset, .unset, .unset, .unset, .unset, .unset, .unset] [])) target → Steps p.tables e below (T0.setTop (mkF m 104 #[.val (.int p1), .val (.int p2), .val (.long q3), .second, .val (.int p4), .val (.int p5), .val (.long q6), .second, .val (.int va8), .val (.int va9), .val (.long vd10), .second, .val (.int va12), .val (.int va13), .val (.int va14), .val (.int va15), .val (.int va16), .unset, .unset, .unset, .unset, .unset, .unset, .unset, .unset, .unset, .unset, .unset] [])) target := by
  refine ⟨T0, X0, e0, fun target kt => ?_⟩
  show Steps p.tables e below (T0.setTop (mkF m 104 #[.val (.int p1), .val (.int p2), .val (.long q3), .second, .val (.int p4), .val (.int p5), .val (.long q6), .second, .val (.int va8), .val (.int va9), .val (.long vd10), .second, .val (.int va12), .val (.int va13), .val (.int va14), .val (.int va15), .val (.int va16), .unset, .unset, .unset, .unset, .unset, .unset, .unset, .unset, .unset, .unset, .unset] [])) _
  refine XS.iload X0.here hx rfl (hb hby at_104) rfl ?_
  show Steps p.tables e below (T0.setTop (mkF m 106 #[.val (.int p1), .val (.int p2), .val (.long q3), .second, .val (.int p4), .val (.int p5), .val (.long q6), .second, .val (.int va8), .val (.int va9), .val (.long vd10), .second, .val (.int va12), .val (.int va13), .val (.int va14), .val (.int va15), .val (.int va16), .unset, .unset, .unset, .unset, .unset, .unset, .unset, .unset, .unset, .unset, .unset] [(.int va14)])) _
  refine XS.ifNo X0.here hx rfl (hb hby at_106) rfl ((if0 _ _).trans (feq hc106).1) ?_
  show Steps p.tables e below (T0.setTop (mkF m 109 #[.val (.int p1), .val (.int p2), .val (.long q3), .second, .val (.int p4), .val (.int p5), .val (.long q6), .second, .val (.int va8), .val (.int va9), .val (.long vd10), .second, .val (.int va12), .val (.int va13), .val (.int va14), .val (.int va15), .val (.int va16), .unset, .unset, .unset, .unset, .unset, .unset, .unset, .unset, .unset, .unset, .unset] [])) _
  refine XS.lload X0.here hx rfl (hb hby at_109) rfl ?_
  show Steps p.tables e below (T0.setTop (mkF m 111 #[.val (.int p1), .val (.int p2), .val (.long q3), .second, .val (.int p4), .val (.int p5), .val (.long q6), .second, .val (.int va8), .val (.int va9), .val (.long vd10), .second, .val (.int va12), .val (.int va13), .val (.int va14), .val (.int va15), .val (.int va16), .unset, .unset, .unset, .unset, .unset, .unset, .unset, .unset, .unset, .unset, .unset] [(.long vd10)])) _
  refine XS.lload X0.here hx rfl (hb hby at_111) rfl ?_
  show Steps p.tables e below (T0.setTop (mkF m 113 #[.val (.int p1), .val (.int p2), .val (.long q3), .second, .val (.int p4), .val (.int p5), .val (.long q6), .second, .val (.int va8), .val (.int va9), .val (.long vd10), .second, .val (.int va12), .val (.int va13), .val (.int va14), .val (.int va15), .val (.int va16), .unset, .unset, .unset, .unset, .unset, .unset, .unset, .unset, .unset, .unset, .unset] [(.long q6), (.long vd10)])) _
  refine X0.ldc2Long hx hown (mvT hZ (hw _ (List.mem_of_getElem? (i := 83) rfl))) (g := (mkF m 113 #[.val (.int p1), .val (.int p2), .val (.long q3), .second, .val (.int p4), .val (.int p5), .val (.long q6), .second, .val (.int va8), .val (.int va9), .val (.long vd10), .second, .val (.int va12), .val (.int va13), .val (.int va14), .val (.int va15), .val (.int va16), .unset, .unset, .unset, .unset, .unset, .unset, .unset, .unset, .unset, .unset, .unset] [(.long q6), (.long vd10)])) rfl (hb hby at_113) _ ?_
  show Steps p.tables e below (T0.setTop (mkF m 116 #[.val (.int p1), .val (.int p2), .val (.long q3), .second, .val (.int p4), .val (.int p5), .val (.long q6), .second, .val (.int va8), .val (.int va9), .val (.long vd10), .second, .val (.int va12), .val (.int va13), .val (.int va14), .val (.int va15), .val (.int va16), .unset, .unset, .unset, .unset, .unset, .unset, .unset, .unset, .unset, .unset, .unset] [(.long (255 : Int64)), (.long q6), (.long vd10)])) _
  refine XS.land X0.here hx rfl (hb hby at_116) rfl ?_
  show Steps p.tables e below (T0.setTop (mkF m 117 #[.val (.int p1), .val (.int p2), .val (.long q3), .second, .val (.int p4), .val (.int p5), .val (.long q6), .second, .val (.int va8), .val (.int va9), .val (.long vd10), .second, .val (.int va12), .val (.int va13), .val (.int va14), .val (.int va15), .val (.int va16), .unset, .unset, .unset, .unset, .unset, .unset, .unset, .unset, .unset, .unset, .unset] [(.long (q6 &&& (255 : Int64))), (.long vd10)])) _
  refine X0.ldc2Long hx hown (mvT hZ (hw _ (List.mem_of_getElem? (i := 84) rfl))) (g := (mkF m 117 #[.val (.int p1), .val (.int p2), .val (.long q3), .second, .val (.int p4), .val (.int p5), .val (.long q6), .second, .val (.int va8), .val (.int va9), .val (.long vd10), .second, .val (.int va12), .val (.int va13), .val (.int va14), .val (.int va15), .val (.int va16), .unset, .unset, .unset, .unset, .unset, .unset, .unset, .unset, .unset, .unset, .unset] [(.long (q6 &&& (255 : Int64))), (.long vd10)])) rfl (hb hby at_117) _ ?_
  show Steps p.tables e below (T0.setTop (mkF m 120 #[.val (.int p1), .val (.int p2), .val (.long q3), .second, .val (.int p4), .val (.int p5), .val (.long q6), .second, .val (.int va8), .val (.int va9), .val (.long vd10), .second, .val (.int va12), .val (.int va13), .val (.int va14), .val (.int va15), .val (.int va16), .unset, .unset, .unset, .unset, .unset, .unset, .unset, .unset, .unset, .unset, .unset] [(.long (128 : Int64)), (.long (q6 &&& (255 : Int64))), (.long vd10)])) _
  refine XS.lsub X0.here hx rfl (hb hby at_120) rfl ?_
  show Steps p.tables e below (T0.setTop (mkF m 121 #[.val (.int p1), .val (.int p2), .val (.long q3), .second, .val (.int p4), .val (.int p5), .val (.long q6), .second, .val (.int va8), .val (.int va9), .val (.long vd10), .second, .val (.int va12), .val (.int va13), .val (.int va14), .val (.int va15), .val (.int va16), .unset, .unset, .unset, .unset, .unset, .unset, .unset, .unset, .unset, .unset, .unset] [(.long ((q6 &&& (255 : Int64)) - (128 : Int64))), (.long vd10)])) _
  refine XS.ladd X0.here hx rfl (hb hby at_121) rfl ?_
  show Steps p.tables e below (T0.setTop (mkF m 122 #[.val (.int p1), .val (.int p2), .val (.long q3), .second, .val (.int p4), .val (.int p5), .val (.long q6), .second, .val (.int va8), .val (.int va9), .val (.long vd10), .second, .val (.int va12), .val (.int va13), .val (.int va14), .val (.int va15), .val (.int va16), .unset, .unset, .unset, .unset, .unset, .unset, .unset, .unset, .unset, .unset, .unset] [(.long (vd10 + ((q6 &&& (255 : Int64)) - (128 : Int64))))])) _
  refine XS.goto X0.here hx rfl (pc0 := 122) (pc' := 131) rfl (hb hby at_122) (by decide) (by decide) ?_
  show Steps p.tables e below (T0.setTop (mkF m 131 #[.val (.int p1), .val (.int p2), .val (.long q3), .second, .val (.int p4), .val (.int p5), .val (.long q6), .second, .val (.int va8), .val (.int va9), .val (.long vd10), .second, .val (.int va12), .val (.int va13), .val (.int va14), .val (.int va15), .val (.int va16), .unset, .unset, .unset, .unset, .unset, .unset, .unset, .unset, .unset, .unset, .unset] [(.long (vd10 + ((q6 &&& (255 : Int64)) - (128 : Int64))))])) _
  refine XS.lstore X0.here hx rfl (hb hby at_131) rfl (l' := #[.val (.int p1), .val (.int p2), .val (.long q3), .second, .val (.int p4), .val (.int p5), .val (.long q6), .second, .val (.int va8), .val (.int va9), .val (.long vd10), .second, .val (.int va12), .val (.int va13), .val (.int va14), .val (.int va15), .val (.int va16), .val (.long (vd10 + ((q6 &&& (255 : Int64)) - (128 : Int64)))), .second, .unset, .unset, .unset, .unset, .unset, .unset, .unset, .unset, .unset]) rfl ?_
  exact kt
theorem own_p104 {p : Program} {l : Launch} {e : Env} {R : Room} {s : State} {m : MethodId} {args : Array Value} {below : List Frame} {meth : Method} {c : Code} {T0 : State} {locs : List Loc} {cells slots : Nat} {Z : State} {a0 : Array Value} {h0 : Heap} (p1 : Int32) (p2 : Int32) (q3 : Int64) (p4 : Int32) (p5 : Int32) (q6 : Int64) (va8 : Int32) (va9 : Int32) (vd10 : Int64) (va12 : Int32) (va13 : Int32) (va14 : Int32) (va15 : Int32) (va16 : Int32) (vd17 : Int64) (hv : vd17 = if va14 = (0 : Int32) then (own_lrem q6 (68719476736 : Int64)) else (vd10 + ((q6 &&& (255 : Int64)) - (128 : Int64))))
    (X0 : Stand p l e R s m args below meth c T0 locs cells slots) (hx : p.tables.exec = Jvm.exec) (hZ : Z.Warmed39 s.vm) (hw : ∀ d ∈ tables_1, d.before a0 Z = true) (hby : c.code = code) (hml : c.maxLocals = 28) (hown : s.vm.findClass "com/example/crackline/crackline/SeenValuesAddPinLaw" = some m.cls) (e0 : T0.heap = h0) :
    ∃ (T' : State), Stand p l e R s m args below meth c T' locs cells slots ∧ T'.heap = h0 ∧
      ∀ target, Steps p.tables e below (T'.setTop (mkF m 133 #[.val (.int p1), .val (.int p2), .val (.long q3), .second, .val (.int p4), .val (.int p5), .val (.long q6), .second, .val (.int va8), .val (.int va9), .val (.long vd10), .second, .val (.int va12), .val (.int va13), .val (.int va14), .val (.int va15), .val (.int va16), .val (.long vd17), .second, .unset, .unset, .unset, .unset, .unset, .unset, .unset, .unset, .unset] [])) target → Steps p.tables e below (T0.setTop (mkF m 104 #[.val (.int p1), .val (.int p2), .val (.long q3), .second, .val (.int p4), .val (.int p5), .val (.long q6), .second, .val (.int va8), .val (.int va9), .val (.long vd10), .second, .val (.int va12), .val (.int va13), .val (.int va14), .val (.int va15), .val (.int va16), .unset, .unset, .unset, .unset, .unset, .unset, .unset, .unset, .unset, .unset, .unset] [])) target := by
  by_cases hcc : va14 = (0 : Int32)
  · rw [if_pos hcc] at hv
    rw [hv]
    exact tn_104_t p1 p2 q3 p4 p5 q6 va8 va9 vd10 va12 va13 va14 va15 va16 X0 hx hZ hw hby hml hown e0 hcc
  · rw [if_neg hcc] at hv
    rw [hv]
    exact tn_104_f p1 p2 q3 p4 p5 q6 va8 va9 vd10 va12 va13 va14 va15 va16 X0 hx hZ hw hby hml hown e0 hcc
set_option maxRecDepth 65536 in
set_option maxHeartbeats 40000000 in
theorem tn_147_t {p : Program} {l : Launch} {e : Env} {R : Room} {s : State} {m : MethodId} {args : Array Value} {below : List Frame} {meth : Method} {c : Code} {T0 : State} {locs : List Loc} {cells slots : Nat} {Z : State} {a0 : Array Value} {h0 : Heap} (p1 : Int32) (p2 : Int32) (q3 : Int64) (p4 : Int32) (p5 : Int32) (q6 : Int64) (va8 : Int32) (va9 : Int32) (vd10 : Int64) (va12 : Int32) (va13 : Int32) (va14 : Int32) (va15 : Int32) (va16 : Int32) (vd17 : Int64) (vk19 : Addr) (vk20 : Addr)
    (X0 : Stand p l e R s m args below meth c T0 locs cells slots) (hx : p.tables.exec = Jvm.exec) (hZ : Z.Warmed39 s.vm) (hw : ∀ d ∈ tables_1, d.before a0 Z = true) (hby : c.code = code) (hml : c.maxLocals = 28) (hown : s.vm.findClass "com/example/crackline/crackline/SeenValuesAddPinLaw" = some m.cls) (e0 : T0.heap = h0) (hc151 : ¬ (va8 = va15)) :
    ∃ (T' : State), Stand p l e R s m args below meth c T' locs cells slots ∧ T'.heap = h0 ∧
      ∀ target, Steps p.tables e below (T'.setTop (mkF m 176 #[.val (.int p1), .val (.int p2), .val (.long q3), .second, .val (.int p4), .val (.int p5), .val (.long q6), .second, .val (.int va8), .val (.int va9), .val (.long vd10), .second, .val (.int va12), .val (.int va13), .val (.int va14), .val (.int va15), .val (.int va16), .val (.long vd17), .second, .val (.ref vk19), .val (.ref vk20), .val (.int (0 : Int32)), .unset, .unset, .unset, .unset, .unset, .unset] [])) target → Steps p.tables e below (T0.setTop (mkF m 147 #[.val (.int p1), .val (.int p2), .val (.long q3), .second, .val (.int p4), .val (.int p5), .val (.long q6), .second, .val (.int va8), .val (.int va9), .val (.long vd10), .second, .val (.int va12), .val (.int va13), .val (.int va14), .val (.int va15), .val (.int va16), .val (.long vd17), .second, .val (.ref vk19), .val (.ref vk20), .unset, .unset, .unset, .unset, .unset, .unset, .unset] [])) target := by
  refine ⟨T0, X0, e0, fun target kt => ?_⟩
  show Steps p.tables e below (T0.setTop (mkF m 147 #[.val (.int p1), .val (.int p2), .val (.long q3), .second, .val (.int p4), .val (.int p5), .val (.long q6), .second, .val (.int va8), .val (.int va9), .val (.long vd10), .second, .val (.int va12), .val (.int va13), .val (.int va14), .val (.int va15), .val (.int va16), .val (.long vd17), .second, .val (.ref vk19), .val (.ref vk20), .unset, .unset, .unset, .unset, .unset, .unset, .unset] [])) _
  refine XS.iload X0.here hx rfl (hb hby at_147) rfl ?_
  show Steps p.tables e below (T0.setTop (mkF m 149 #[.val (.int p1), .val (.int p2), .val (.long q3), .second, .val (.int p4), .val (.int p5), .val (.long q6), .second, .val (.int va8), .val (.int va9), .val (.long vd10), .second, .val (.int va12), .val (.int va13), .val (.int va14), .val (.int va15), .val (.int va16), .val (.long vd17), .second, .val (.ref vk19), .val (.ref vk20), .unset, .unset, .unset, .unset, .unset, .unset, .unset] [(.int va8)])) _
  refine XS.iload X0.here hx rfl (hb hby at_149) rfl ?_
  show Steps p.tables e below (T0.setTop (mkF m 151 #[.val (.int p1), .val (.int p2), .val (.long q3), .second, .val (.int p4), .val (.int p5), .val (.long q6), .second, .val (.int va8), .val (.int va9), .val (.long vd10), .second, .val (.int va12), .val (.int va13), .val (.int va14), .val (.int va15), .val (.int va16), .val (.long vd17), .second, .val (.ref vk19), .val (.ref vk20), .unset, .unset, .unset, .unset, .unset, .unset, .unset] [(.int va15), (.int va8)])) _
  refine XS.icmpYes X0.here hx rfl (pc0 := 151) (pc' := 173) rfl (hb hby at_151) rfl (feq hc151).2 (by decide) (by decide) ?_
  show Steps p.tables e below (T0.setTop (mkF m 173 #[.val (.int p1), .val (.int p2), .val (.long q3), .second, .val (.int p4), .val (.int p5), .val (.long q6), .second, .val (.int va8), .val (.int va9), .val (.long vd10), .second, .val (.int va12), .val (.int va13), .val (.int va14), .val (.int va15), .val (.int va16), .val (.long vd17), .second, .val (.ref vk19), .val (.ref vk20), .unset, .unset, .unset, .unset, .unset, .unset, .unset] [])) _
  refine XS.iconst X0.here hx rfl (hb hby at_173) ?_
  show Steps p.tables e below (T0.setTop (mkF m 174 #[.val (.int p1), .val (.int p2), .val (.long q3), .second, .val (.int p4), .val (.int p5), .val (.long q6), .second, .val (.int va8), .val (.int va9), .val (.long vd10), .second, .val (.int va12), .val (.int va13), .val (.int va14), .val (.int va15), .val (.int va16), .val (.long vd17), .second, .val (.ref vk19), .val (.ref vk20), .unset, .unset, .unset, .unset, .unset, .unset, .unset] [(.int (0 : Int32))])) _
  refine XS.istore X0.here hx rfl (hb hby at_174) rfl (l' := #[.val (.int p1), .val (.int p2), .val (.long q3), .second, .val (.int p4), .val (.int p5), .val (.long q6), .second, .val (.int va8), .val (.int va9), .val (.long vd10), .second, .val (.int va12), .val (.int va13), .val (.int va14), .val (.int va15), .val (.int va16), .val (.long vd17), .second, .val (.ref vk19), .val (.ref vk20), .val (.int (0 : Int32)), .unset, .unset, .unset, .unset, .unset, .unset]) rfl ?_
  exact kt
set_option maxRecDepth 65536 in
set_option maxHeartbeats 40000000 in
theorem tn_147_ft {p : Program} {l : Launch} {e : Env} {R : Room} {s : State} {m : MethodId} {args : Array Value} {below : List Frame} {meth : Method} {c : Code} {T0 : State} {locs : List Loc} {cells slots : Nat} {Z : State} {a0 : Array Value} {h0 : Heap} (p1 : Int32) (p2 : Int32) (q3 : Int64) (p4 : Int32) (p5 : Int32) (q6 : Int64) (va8 : Int32) (va9 : Int32) (vd10 : Int64) (va12 : Int32) (va13 : Int32) (va14 : Int32) (va15 : Int32) (va16 : Int32) (vd17 : Int64) (vk19 : Addr) (vk20 : Addr)
    (X0 : Stand p l e R s m args below meth c T0 locs cells slots) (hx : p.tables.exec = Jvm.exec) (hZ : Z.Warmed39 s.vm) (hw : ∀ d ∈ tables_1, d.before a0 Z = true) (hby : c.code = code) (hml : c.maxLocals = 28) (hown : s.vm.findClass "com/example/crackline/crackline/SeenValuesAddPinLaw" = some m.cls) (e0 : T0.heap = h0) (hc151 : va8 = va15) (hc158 : ¬ (va9 = va16)) :
    ∃ (T' : State), Stand p l e R s m args below meth c T' locs cells slots ∧ T'.heap = h0 ∧
      ∀ target, Steps p.tables e below (T'.setTop (mkF m 176 #[.val (.int p1), .val (.int p2), .val (.long q3), .second, .val (.int p4), .val (.int p5), .val (.long q6), .second, .val (.int va8), .val (.int va9), .val (.long vd10), .second, .val (.int va12), .val (.int va13), .val (.int va14), .val (.int va15), .val (.int va16), .val (.long vd17), .second, .val (.ref vk19), .val (.ref vk20), .val (.int (0 : Int32)), .unset, .unset, .unset, .unset, .unset, .unset] [])) target → Steps p.tables e below (T0.setTop (mkF m 147 #[.val (.int p1), .val (.int p2), .val (.long q3), .second, .val (.int p4), .val (.int p5), .val (.long q6), .second, .val (.int va8), .val (.int va9), .val (.long vd10), .second, .val (.int va12), .val (.int va13), .val (.int va14), .val (.int va15), .val (.int va16), .val (.long vd17), .second, .val (.ref vk19), .val (.ref vk20), .unset, .unset, .unset, .unset, .unset, .unset, .unset] [])) target := by
  refine ⟨T0, X0, e0, fun target kt => ?_⟩
  show Steps p.tables e below (T0.setTop (mkF m 147 #[.val (.int p1), .val (.int p2), .val (.long q3), .second, .val (.int p4), .val (.int p5), .val (.long q6), .second, .val (.int va8), .val (.int va9), .val (.long vd10), .second, .val (.int va12), .val (.int va13), .val (.int va14), .val (.int va15), .val (.int va16), .val (.long vd17), .second, .val (.ref vk19), .val (.ref vk20), .unset, .unset, .unset, .unset, .unset, .unset, .unset] [])) _
  refine XS.iload X0.here hx rfl (hb hby at_147) rfl ?_
  show Steps p.tables e below (T0.setTop (mkF m 149 #[.val (.int p1), .val (.int p2), .val (.long q3), .second, .val (.int p4), .val (.int p5), .val (.long q6), .second, .val (.int va8), .val (.int va9), .val (.long vd10), .second, .val (.int va12), .val (.int va13), .val (.int va14), .val (.int va15), .val (.int va16), .val (.long vd17), .second, .val (.ref vk19), .val (.ref vk20), .unset, .unset, .unset, .unset, .unset, .unset, .unset] [(.int va8)])) _
  refine XS.iload X0.here hx rfl (hb hby at_149) rfl ?_
  show Steps p.tables e below (T0.setTop (mkF m 151 #[.val (.int p1), .val (.int p2), .val (.long q3), .second, .val (.int p4), .val (.int p5), .val (.long q6), .second, .val (.int va8), .val (.int va9), .val (.long vd10), .second, .val (.int va12), .val (.int va13), .val (.int va14), .val (.int va15), .val (.int va16), .val (.long vd17), .second, .val (.ref vk19), .val (.ref vk20), .unset, .unset, .unset, .unset, .unset, .unset, .unset] [(.int va15), (.int va8)])) _
  refine XS.icmpNo X0.here hx rfl (hb hby at_151) rfl (teq hc151).2 ?_
  show Steps p.tables e below (T0.setTop (mkF m 154 #[.val (.int p1), .val (.int p2), .val (.long q3), .second, .val (.int p4), .val (.int p5), .val (.long q6), .second, .val (.int va8), .val (.int va9), .val (.long vd10), .second, .val (.int va12), .val (.int va13), .val (.int va14), .val (.int va15), .val (.int va16), .val (.long vd17), .second, .val (.ref vk19), .val (.ref vk20), .unset, .unset, .unset, .unset, .unset, .unset, .unset] [])) _
  refine XS.iload X0.here hx rfl (hb hby at_154) rfl ?_
  show Steps p.tables e below (T0.setTop (mkF m 156 #[.val (.int p1), .val (.int p2), .val (.long q3), .second, .val (.int p4), .val (.int p5), .val (.long q6), .second, .val (.int va8), .val (.int va9), .val (.long vd10), .second, .val (.int va12), .val (.int va13), .val (.int va14), .val (.int va15), .val (.int va16), .val (.long vd17), .second, .val (.ref vk19), .val (.ref vk20), .unset, .unset, .unset, .unset, .unset, .unset, .unset] [(.int va9)])) _
  refine XS.iload X0.here hx rfl (hb hby at_156) rfl ?_
  show Steps p.tables e below (T0.setTop (mkF m 158 #[.val (.int p1), .val (.int p2), .val (.long q3), .second, .val (.int p4), .val (.int p5), .val (.long q6), .second, .val (.int va8), .val (.int va9), .val (.long vd10), .second, .val (.int va12), .val (.int va13), .val (.int va14), .val (.int va15), .val (.int va16), .val (.long vd17), .second, .val (.ref vk19), .val (.ref vk20), .unset, .unset, .unset, .unset, .unset, .unset, .unset] [(.int va16), (.int va9)])) _
  refine XS.icmpYes X0.here hx rfl (pc0 := 158) (pc' := 173) rfl (hb hby at_158) rfl (feq hc158).2 (by decide) (by decide) ?_
  show Steps p.tables e below (T0.setTop (mkF m 173 #[.val (.int p1), .val (.int p2), .val (.long q3), .second, .val (.int p4), .val (.int p5), .val (.long q6), .second, .val (.int va8), .val (.int va9), .val (.long vd10), .second, .val (.int va12), .val (.int va13), .val (.int va14), .val (.int va15), .val (.int va16), .val (.long vd17), .second, .val (.ref vk19), .val (.ref vk20), .unset, .unset, .unset, .unset, .unset, .unset, .unset] [])) _
  refine XS.iconst X0.here hx rfl (hb hby at_173) ?_
  show Steps p.tables e below (T0.setTop (mkF m 174 #[.val (.int p1), .val (.int p2), .val (.long q3), .second, .val (.int p4), .val (.int p5), .val (.long q6), .second, .val (.int va8), .val (.int va9), .val (.long vd10), .second, .val (.int va12), .val (.int va13), .val (.int va14), .val (.int va15), .val (.int va16), .val (.long vd17), .second, .val (.ref vk19), .val (.ref vk20), .unset, .unset, .unset, .unset, .unset, .unset, .unset] [(.int (0 : Int32))])) _
  refine XS.istore X0.here hx rfl (hb hby at_174) rfl (l' := #[.val (.int p1), .val (.int p2), .val (.long q3), .second, .val (.int p4), .val (.int p5), .val (.long q6), .second, .val (.int va8), .val (.int va9), .val (.long vd10), .second, .val (.int va12), .val (.int va13), .val (.int va14), .val (.int va15), .val (.int va16), .val (.long vd17), .second, .val (.ref vk19), .val (.ref vk20), .val (.int (0 : Int32)), .unset, .unset, .unset, .unset, .unset, .unset]) rfl ?_
  exact kt
set_option maxRecDepth 65536 in
set_option maxHeartbeats 40000000 in
theorem tn_147_fft {p : Program} {l : Launch} {e : Env} {R : Room} {s : State} {m : MethodId} {args : Array Value} {below : List Frame} {meth : Method} {c : Code} {T0 : State} {locs : List Loc} {cells slots : Nat} {Z : State} {a0 : Array Value} {h0 : Heap} (p1 : Int32) (p2 : Int32) (q3 : Int64) (p4 : Int32) (p5 : Int32) (q6 : Int64) (va8 : Int32) (va9 : Int32) (vd10 : Int64) (va12 : Int32) (va13 : Int32) (va14 : Int32) (va15 : Int32) (va16 : Int32) (vd17 : Int64) (vk19 : Addr) (vk20 : Addr)
    (X0 : Stand p l e R s m args below meth c T0 locs cells slots) (hx : p.tables.exec = Jvm.exec) (hZ : Z.Warmed39 s.vm) (hw : ∀ d ∈ tables_1, d.before a0 Z = true) (hby : c.code = code) (hml : c.maxLocals = 28) (hown : s.vm.findClass "com/example/crackline/crackline/SeenValuesAddPinLaw" = some m.cls) (e0 : T0.heap = h0) (hc151 : va8 = va15) (hc158 : va9 = va16) (hc166 : ¬ ((lcmpW vd10 vd17) = (0 : Int32))) :
    ∃ (T' : State), Stand p l e R s m args below meth c T' locs cells slots ∧ T'.heap = h0 ∧
      ∀ target, Steps p.tables e below (T'.setTop (mkF m 176 #[.val (.int p1), .val (.int p2), .val (.long q3), .second, .val (.int p4), .val (.int p5), .val (.long q6), .second, .val (.int va8), .val (.int va9), .val (.long vd10), .second, .val (.int va12), .val (.int va13), .val (.int va14), .val (.int va15), .val (.int va16), .val (.long vd17), .second, .val (.ref vk19), .val (.ref vk20), .val (.int (0 : Int32)), .unset, .unset, .unset, .unset, .unset, .unset] [])) target → Steps p.tables e below (T0.setTop (mkF m 147 #[.val (.int p1), .val (.int p2), .val (.long q3), .second, .val (.int p4), .val (.int p5), .val (.long q6), .second, .val (.int va8), .val (.int va9), .val (.long vd10), .second, .val (.int va12), .val (.int va13), .val (.int va14), .val (.int va15), .val (.int va16), .val (.long vd17), .second, .val (.ref vk19), .val (.ref vk20), .unset, .unset, .unset, .unset, .unset, .unset, .unset] [])) target := by
  refine ⟨T0, X0, e0, fun target kt => ?_⟩
  show Steps p.tables e below (T0.setTop (mkF m 147 #[.val (.int p1), .val (.int p2), .val (.long q3), .second, .val (.int p4), .val (.int p5), .val (.long q6), .second, .val (.int va8), .val (.int va9), .val (.long vd10), .second, .val (.int va12), .val (.int va13), .val (.int va14), .val (.int va15), .val (.int va16), .val (.long vd17), .second, .val (.ref vk19), .val (.ref vk20), .unset, .unset, .unset, .unset, .unset, .unset, .unset] [])) _
  refine XS.iload X0.here hx rfl (hb hby at_147) rfl ?_
  show Steps p.tables e below (T0.setTop (mkF m 149 #[.val (.int p1), .val (.int p2), .val (.long q3), .second, .val (.int p4), .val (.int p5), .val (.long q6), .second, .val (.int va8), .val (.int va9), .val (.long vd10), .second, .val (.int va12), .val (.int va13), .val (.int va14), .val (.int va15), .val (.int va16), .val (.long vd17), .second, .val (.ref vk19), .val (.ref vk20), .unset, .unset, .unset, .unset, .unset, .unset, .unset] [(.int va8)])) _
  refine XS.iload X0.here hx rfl (hb hby at_149) rfl ?_
  show Steps p.tables e below (T0.setTop (mkF m 151 #[.val (.int p1), .val (.int p2), .val (.long q3), .second, .val (.int p4), .val (.int p5), .val (.long q6), .second, .val (.int va8), .val (.int va9), .val (.long vd10), .second, .val (.int va12), .val (.int va13), .val (.int va14), .val (.int va15), .val (.int va16), .val (.long vd17), .second, .val (.ref vk19), .val (.ref vk20), .unset, .unset, .unset, .unset, .unset, .unset, .unset] [(.int va15), (.int va8)])) _
  refine XS.icmpNo X0.here hx rfl (hb hby at_151) rfl (teq hc151).2 ?_
  show Steps p.tables e below (T0.setTop (mkF m 154 #[.val (.int p1), .val (.int p2), .val (.long q3), .second, .val (.int p4), .val (.int p5), .val (.long q6), .second, .val (.int va8), .val (.int va9), .val (.long vd10), .second, .val (.int va12), .val (.int va13), .val (.int va14), .val (.int va15), .val (.int va16), .val (.long vd17), .second, .val (.ref vk19), .val (.ref vk20), .unset, .unset, .unset, .unset, .unset, .unset, .unset] [])) _
  refine XS.iload X0.here hx rfl (hb hby at_154) rfl ?_
  show Steps p.tables e below (T0.setTop (mkF m 156 #[.val (.int p1), .val (.int p2), .val (.long q3), .second, .val (.int p4), .val (.int p5), .val (.long q6), .second, .val (.int va8), .val (.int va9), .val (.long vd10), .second, .val (.int va12), .val (.int va13), .val (.int va14), .val (.int va15), .val (.int va16), .val (.long vd17), .second, .val (.ref vk19), .val (.ref vk20), .unset, .unset, .unset, .unset, .unset, .unset, .unset] [(.int va9)])) _
  refine XS.iload X0.here hx rfl (hb hby at_156) rfl ?_
  show Steps p.tables e below (T0.setTop (mkF m 158 #[.val (.int p1), .val (.int p2), .val (.long q3), .second, .val (.int p4), .val (.int p5), .val (.long q6), .second, .val (.int va8), .val (.int va9), .val (.long vd10), .second, .val (.int va12), .val (.int va13), .val (.int va14), .val (.int va15), .val (.int va16), .val (.long vd17), .second, .val (.ref vk19), .val (.ref vk20), .unset, .unset, .unset, .unset, .unset, .unset, .unset] [(.int va16), (.int va9)])) _
  refine XS.icmpNo X0.here hx rfl (hb hby at_158) rfl (teq hc158).2 ?_
  show Steps p.tables e below (T0.setTop (mkF m 161 #[.val (.int p1), .val (.int p2), .val (.long q3), .second, .val (.int p4), .val (.int p5), .val (.long q6), .second, .val (.int va8), .val (.int va9), .val (.long vd10), .second, .val (.int va12), .val (.int va13), .val (.int va14), .val (.int va15), .val (.int va16), .val (.long vd17), .second, .val (.ref vk19), .val (.ref vk20), .unset, .unset, .unset, .unset, .unset, .unset, .unset] [])) _
  refine XS.lload X0.here hx rfl (hb hby at_161) rfl ?_
  show Steps p.tables e below (T0.setTop (mkF m 163 #[.val (.int p1), .val (.int p2), .val (.long q3), .second, .val (.int p4), .val (.int p5), .val (.long q6), .second, .val (.int va8), .val (.int va9), .val (.long vd10), .second, .val (.int va12), .val (.int va13), .val (.int va14), .val (.int va15), .val (.int va16), .val (.long vd17), .second, .val (.ref vk19), .val (.ref vk20), .unset, .unset, .unset, .unset, .unset, .unset, .unset] [(.long vd10)])) _
  refine XS.lload X0.here hx rfl (hb hby at_163) rfl ?_
  show Steps p.tables e below (T0.setTop (mkF m 165 #[.val (.int p1), .val (.int p2), .val (.long q3), .second, .val (.int p4), .val (.int p5), .val (.long q6), .second, .val (.int va8), .val (.int va9), .val (.long vd10), .second, .val (.int va12), .val (.int va13), .val (.int va14), .val (.int va15), .val (.int va16), .val (.long vd17), .second, .val (.ref vk19), .val (.ref vk20), .unset, .unset, .unset, .unset, .unset, .unset, .unset] [(.long vd17), (.long vd10)])) _
  refine XS.lcmp X0.here hx rfl (hb hby at_165) rfl ?_
  show Steps p.tables e below (T0.setTop (mkF m 166 #[.val (.int p1), .val (.int p2), .val (.long q3), .second, .val (.int p4), .val (.int p5), .val (.long q6), .second, .val (.int va8), .val (.int va9), .val (.long vd10), .second, .val (.int va12), .val (.int va13), .val (.int va14), .val (.int va15), .val (.int va16), .val (.long vd17), .second, .val (.ref vk19), .val (.ref vk20), .unset, .unset, .unset, .unset, .unset, .unset, .unset] [(.int (lcmpW vd10 vd17))])) _
  refine XS.ifYes X0.here hx rfl (pc0 := 166) (pc' := 173) rfl (hb hby at_166) rfl ((if0 _ _).trans (feq hc166).2) (by decide) (by decide) ?_
  show Steps p.tables e below (T0.setTop (mkF m 173 #[.val (.int p1), .val (.int p2), .val (.long q3), .second, .val (.int p4), .val (.int p5), .val (.long q6), .second, .val (.int va8), .val (.int va9), .val (.long vd10), .second, .val (.int va12), .val (.int va13), .val (.int va14), .val (.int va15), .val (.int va16), .val (.long vd17), .second, .val (.ref vk19), .val (.ref vk20), .unset, .unset, .unset, .unset, .unset, .unset, .unset] [])) _
  refine XS.iconst X0.here hx rfl (hb hby at_173) ?_
  show Steps p.tables e below (T0.setTop (mkF m 174 #[.val (.int p1), .val (.int p2), .val (.long q3), .second, .val (.int p4), .val (.int p5), .val (.long q6), .second, .val (.int va8), .val (.int va9), .val (.long vd10), .second, .val (.int va12), .val (.int va13), .val (.int va14), .val (.int va15), .val (.int va16), .val (.long vd17), .second, .val (.ref vk19), .val (.ref vk20), .unset, .unset, .unset, .unset, .unset, .unset, .unset] [(.int (0 : Int32))])) _
  refine XS.istore X0.here hx rfl (hb hby at_174) rfl (l' := #[.val (.int p1), .val (.int p2), .val (.long q3), .second, .val (.int p4), .val (.int p5), .val (.long q6), .second, .val (.int va8), .val (.int va9), .val (.long vd10), .second, .val (.int va12), .val (.int va13), .val (.int va14), .val (.int va15), .val (.int va16), .val (.long vd17), .second, .val (.ref vk19), .val (.ref vk20), .val (.int (0 : Int32)), .unset, .unset, .unset, .unset, .unset, .unset]) rfl ?_
  exact kt
set_option maxRecDepth 65536 in
set_option maxHeartbeats 40000000 in
theorem tn_147_fff {p : Program} {l : Launch} {e : Env} {R : Room} {s : State} {m : MethodId} {args : Array Value} {below : List Frame} {meth : Method} {c : Code} {T0 : State} {locs : List Loc} {cells slots : Nat} {Z : State} {a0 : Array Value} {h0 : Heap} (p1 : Int32) (p2 : Int32) (q3 : Int64) (p4 : Int32) (p5 : Int32) (q6 : Int64) (va8 : Int32) (va9 : Int32) (vd10 : Int64) (va12 : Int32) (va13 : Int32) (va14 : Int32) (va15 : Int32) (va16 : Int32) (vd17 : Int64) (vk19 : Addr) (vk20 : Addr)
    (X0 : Stand p l e R s m args below meth c T0 locs cells slots) (hx : p.tables.exec = Jvm.exec) (hZ : Z.Warmed39 s.vm) (hw : ∀ d ∈ tables_1, d.before a0 Z = true) (hby : c.code = code) (hml : c.maxLocals = 28) (hown : s.vm.findClass "com/example/crackline/crackline/SeenValuesAddPinLaw" = some m.cls) (e0 : T0.heap = h0) (hc151 : va8 = va15) (hc158 : va9 = va16) (hc166 : (lcmpW vd10 vd17) = (0 : Int32)) :
    ∃ (T' : State), Stand p l e R s m args below meth c T' locs cells slots ∧ T'.heap = h0 ∧
      ∀ target, Steps p.tables e below (T'.setTop (mkF m 176 #[.val (.int p1), .val (.int p2), .val (.long q3), .second, .val (.int p4), .val (.int p5), .val (.long q6), .second, .val (.int va8), .val (.int va9), .val (.long vd10), .second, .val (.int va12), .val (.int va13), .val (.int va14), .val (.int va15), .val (.int va16), .val (.long vd17), .second, .val (.ref vk19), .val (.ref vk20), .val (.int (1 : Int32)), .unset, .unset, .unset, .unset, .unset, .unset] [])) target → Steps p.tables e below (T0.setTop (mkF m 147 #[.val (.int p1), .val (.int p2), .val (.long q3), .second, .val (.int p4), .val (.int p5), .val (.long q6), .second, .val (.int va8), .val (.int va9), .val (.long vd10), .second, .val (.int va12), .val (.int va13), .val (.int va14), .val (.int va15), .val (.int va16), .val (.long vd17), .second, .val (.ref vk19), .val (.ref vk20), .unset, .unset, .unset, .unset, .unset, .unset, .unset] [])) target := by
  refine ⟨T0, X0, e0, fun target kt => ?_⟩
  show Steps p.tables e below (T0.setTop (mkF m 147 #[.val (.int p1), .val (.int p2), .val (.long q3), .second, .val (.int p4), .val (.int p5), .val (.long q6), .second, .val (.int va8), .val (.int va9), .val (.long vd10), .second, .val (.int va12), .val (.int va13), .val (.int va14), .val (.int va15), .val (.int va16), .val (.long vd17), .second, .val (.ref vk19), .val (.ref vk20), .unset, .unset, .unset, .unset, .unset, .unset, .unset] [])) _
  refine XS.iload X0.here hx rfl (hb hby at_147) rfl ?_
  show Steps p.tables e below (T0.setTop (mkF m 149 #[.val (.int p1), .val (.int p2), .val (.long q3), .second, .val (.int p4), .val (.int p5), .val (.long q6), .second, .val (.int va8), .val (.int va9), .val (.long vd10), .second, .val (.int va12), .val (.int va13), .val (.int va14), .val (.int va15), .val (.int va16), .val (.long vd17), .second, .val (.ref vk19), .val (.ref vk20), .unset, .unset, .unset, .unset, .unset, .unset, .unset] [(.int va8)])) _
  refine XS.iload X0.here hx rfl (hb hby at_149) rfl ?_
  show Steps p.tables e below (T0.setTop (mkF m 151 #[.val (.int p1), .val (.int p2), .val (.long q3), .second, .val (.int p4), .val (.int p5), .val (.long q6), .second, .val (.int va8), .val (.int va9), .val (.long vd10), .second, .val (.int va12), .val (.int va13), .val (.int va14), .val (.int va15), .val (.int va16), .val (.long vd17), .second, .val (.ref vk19), .val (.ref vk20), .unset, .unset, .unset, .unset, .unset, .unset, .unset] [(.int va15), (.int va8)])) _
  refine XS.icmpNo X0.here hx rfl (hb hby at_151) rfl (teq hc151).2 ?_
  show Steps p.tables e below (T0.setTop (mkF m 154 #[.val (.int p1), .val (.int p2), .val (.long q3), .second, .val (.int p4), .val (.int p5), .val (.long q6), .second, .val (.int va8), .val (.int va9), .val (.long vd10), .second, .val (.int va12), .val (.int va13), .val (.int va14), .val (.int va15), .val (.int va16), .val (.long vd17), .second, .val (.ref vk19), .val (.ref vk20), .unset, .unset, .unset, .unset, .unset, .unset, .unset] [])) _
  refine XS.iload X0.here hx rfl (hb hby at_154) rfl ?_
  show Steps p.tables e below (T0.setTop (mkF m 156 #[.val (.int p1), .val (.int p2), .val (.long q3), .second, .val (.int p4), .val (.int p5), .val (.long q6), .second, .val (.int va8), .val (.int va9), .val (.long vd10), .second, .val (.int va12), .val (.int va13), .val (.int va14), .val (.int va15), .val (.int va16), .val (.long vd17), .second, .val (.ref vk19), .val (.ref vk20), .unset, .unset, .unset, .unset, .unset, .unset, .unset] [(.int va9)])) _
  refine XS.iload X0.here hx rfl (hb hby at_156) rfl ?_
  show Steps p.tables e below (T0.setTop (mkF m 158 #[.val (.int p1), .val (.int p2), .val (.long q3), .second, .val (.int p4), .val (.int p5), .val (.long q6), .second, .val (.int va8), .val (.int va9), .val (.long vd10), .second, .val (.int va12), .val (.int va13), .val (.int va14), .val (.int va15), .val (.int va16), .val (.long vd17), .second, .val (.ref vk19), .val (.ref vk20), .unset, .unset, .unset, .unset, .unset, .unset, .unset] [(.int va16), (.int va9)])) _
  refine XS.icmpNo X0.here hx rfl (hb hby at_158) rfl (teq hc158).2 ?_
  show Steps p.tables e below (T0.setTop (mkF m 161 #[.val (.int p1), .val (.int p2), .val (.long q3), .second, .val (.int p4), .val (.int p5), .val (.long q6), .second, .val (.int va8), .val (.int va9), .val (.long vd10), .second, .val (.int va12), .val (.int va13), .val (.int va14), .val (.int va15), .val (.int va16), .val (.long vd17), .second, .val (.ref vk19), .val (.ref vk20), .unset, .unset, .unset, .unset, .unset, .unset, .unset] [])) _
  refine XS.lload X0.here hx rfl (hb hby at_161) rfl ?_
  show Steps p.tables e below (T0.setTop (mkF m 163 #[.val (.int p1), .val (.int p2), .val (.long q3), .second, .val (.int p4), .val (.int p5), .val (.long q6), .second, .val (.int va8), .val (.int va9), .val (.long vd10), .second, .val (.int va12), .val (.int va13), .val (.int va14), .val (.int va15), .val (.int va16), .val (.long vd17), .second, .val (.ref vk19), .val (.ref vk20), .unset, .unset, .unset, .unset, .unset, .unset, .unset] [(.long vd10)])) _
  refine XS.lload X0.here hx rfl (hb hby at_163) rfl ?_
  show Steps p.tables e below (T0.setTop (mkF m 165 #[.val (.int p1), .val (.int p2), .val (.long q3), .second, .val (.int p4), .val (.int p5), .val (.long q6), .second, .val (.int va8), .val (.int va9), .val (.long vd10), .second, .val (.int va12), .val (.int va13), .val (.int va14), .val (.int va15), .val (.int va16), .val (.long vd17), .second, .val (.ref vk19), .val (.ref vk20), .unset, .unset, .unset, .unset, .unset, .unset, .unset] [(.long vd17), (.long vd10)])) _
  refine XS.lcmp X0.here hx rfl (hb hby at_165) rfl ?_
  show Steps p.tables e below (T0.setTop (mkF m 166 #[.val (.int p1), .val (.int p2), .val (.long q3), .second, .val (.int p4), .val (.int p5), .val (.long q6), .second, .val (.int va8), .val (.int va9), .val (.long vd10), .second, .val (.int va12), .val (.int va13), .val (.int va14), .val (.int va15), .val (.int va16), .val (.long vd17), .second, .val (.ref vk19), .val (.ref vk20), .unset, .unset, .unset, .unset, .unset, .unset, .unset] [(.int (lcmpW vd10 vd17))])) _
  refine XS.ifNo X0.here hx rfl (hb hby at_166) rfl ((if0 _ _).trans (teq hc166).2) ?_
  show Steps p.tables e below (T0.setTop (mkF m 169 #[.val (.int p1), .val (.int p2), .val (.long q3), .second, .val (.int p4), .val (.int p5), .val (.long q6), .second, .val (.int va8), .val (.int va9), .val (.long vd10), .second, .val (.int va12), .val (.int va13), .val (.int va14), .val (.int va15), .val (.int va16), .val (.long vd17), .second, .val (.ref vk19), .val (.ref vk20), .unset, .unset, .unset, .unset, .unset, .unset, .unset] [])) _
  refine XS.iconst X0.here hx rfl (hb hby at_169) ?_
  show Steps p.tables e below (T0.setTop (mkF m 170 #[.val (.int p1), .val (.int p2), .val (.long q3), .second, .val (.int p4), .val (.int p5), .val (.long q6), .second, .val (.int va8), .val (.int va9), .val (.long vd10), .second, .val (.int va12), .val (.int va13), .val (.int va14), .val (.int va15), .val (.int va16), .val (.long vd17), .second, .val (.ref vk19), .val (.ref vk20), .unset, .unset, .unset, .unset, .unset, .unset, .unset] [(.int (1 : Int32))])) _
  refine XS.goto X0.here hx rfl (pc0 := 170) (pc' := 174) rfl (hb hby at_170) (by decide) (by decide) ?_
  show Steps p.tables e below (T0.setTop (mkF m 174 #[.val (.int p1), .val (.int p2), .val (.long q3), .second, .val (.int p4), .val (.int p5), .val (.long q6), .second, .val (.int va8), .val (.int va9), .val (.long vd10), .second, .val (.int va12), .val (.int va13), .val (.int va14), .val (.int va15), .val (.int va16), .val (.long vd17), .second, .val (.ref vk19), .val (.ref vk20), .unset, .unset, .unset, .unset, .unset, .unset, .unset] [(.int (1 : Int32))])) _
  refine XS.istore X0.here hx rfl (hb hby at_174) rfl (l' := #[.val (.int p1), .val (.int p2), .val (.long q3), .second, .val (.int p4), .val (.int p5), .val (.long q6), .second, .val (.int va8), .val (.int va9), .val (.long vd10), .second, .val (.int va12), .val (.int va13), .val (.int va14), .val (.int va15), .val (.int va16), .val (.long vd17), .second, .val (.ref vk19), .val (.ref vk20), .val (.int (1 : Int32)), .unset, .unset, .unset, .unset, .unset, .unset]) rfl ?_
  exact kt
theorem own_p147 {p : Program} {l : Launch} {e : Env} {R : Room} {s : State} {m : MethodId} {args : Array Value} {below : List Frame} {meth : Method} {c : Code} {T0 : State} {locs : List Loc} {cells slots : Nat} {Z : State} {a0 : Array Value} {h0 : Heap} (p1 : Int32) (p2 : Int32) (q3 : Int64) (p4 : Int32) (p5 : Int32) (q6 : Int64) (va8 : Int32) (va9 : Int32) (vd10 : Int64) (va12 : Int32) (va13 : Int32) (va14 : Int32) (va15 : Int32) (va16 : Int32) (vd17 : Int64) (vk19 : Addr) (vk20 : Addr) (va21 : Int32) (hv : va21 = if va8 = va15 ∧ va9 = va16 ∧ vd10 = vd17 then (1 : Int32) else (0 : Int32))
    (X0 : Stand p l e R s m args below meth c T0 locs cells slots) (hx : p.tables.exec = Jvm.exec) (hZ : Z.Warmed39 s.vm) (hw : ∀ d ∈ tables_1, d.before a0 Z = true) (hby : c.code = code) (hml : c.maxLocals = 28) (hown : s.vm.findClass "com/example/crackline/crackline/SeenValuesAddPinLaw" = some m.cls) (e0 : T0.heap = h0) :
    ∃ (T' : State), Stand p l e R s m args below meth c T' locs cells slots ∧ T'.heap = h0 ∧
      ∀ target, Steps p.tables e below (T'.setTop (mkF m 176 #[.val (.int p1), .val (.int p2), .val (.long q3), .second, .val (.int p4), .val (.int p5), .val (.long q6), .second, .val (.int va8), .val (.int va9), .val (.long vd10), .second, .val (.int va12), .val (.int va13), .val (.int va14), .val (.int va15), .val (.int va16), .val (.long vd17), .second, .val (.ref vk19), .val (.ref vk20), .val (.int va21), .unset, .unset, .unset, .unset, .unset, .unset] [])) target → Steps p.tables e below (T0.setTop (mkF m 147 #[.val (.int p1), .val (.int p2), .val (.long q3), .second, .val (.int p4), .val (.int p5), .val (.long q6), .second, .val (.int va8), .val (.int va9), .val (.long vd10), .second, .val (.int va12), .val (.int va13), .val (.int va14), .val (.int va15), .val (.int va16), .val (.long vd17), .second, .val (.ref vk19), .val (.ref vk20), .unset, .unset, .unset, .unset, .unset, .unset, .unset] [])) target := by
  by_cases y1 : va8 = va15
  · by_cases y2 : va9 = va16
    · by_cases y3 : vd10 = vd17
      · rw [if_pos ⟨y1, y2, y3⟩] at hv
        subst hv
        exact tn_147_fff p1 p2 q3 p4 p5 q6 va8 va9 vd10 va12 va13 va14 va15 va16 vd17 vk19 vk20 X0 hx hZ hw hby hml hown e0 y1 y2 ((lw_eq _ _).mpr y3)
      · rw [if_neg (fun z => y3 z.2.2)] at hv
        subst hv
        exact tn_147_fft p1 p2 q3 p4 p5 q6 va8 va9 vd10 va12 va13 va14 va15 va16 vd17 vk19 vk20 X0 hx hZ hw hby hml hown e0 y1 y2 (fun z => y3 ((lw_eq _ _).mp z))
    · rw [if_neg (fun z => y2 z.2.1)] at hv
      subst hv
      exact tn_147_ft p1 p2 q3 p4 p5 q6 va8 va9 vd10 va12 va13 va14 va15 va16 vd17 vk19 vk20 X0 hx hZ hw hby hml hown e0 y1 y2
  · rw [if_neg (fun z => y1 z.1)] at hv
    subst hv
    exact tn_147_t p1 p2 q3 p4 p5 q6 va8 va9 vd10 va12 va13 va14 va15 va16 vd17 vk19 vk20 X0 hx hZ hw hby hml hown e0 y1
set_option maxRecDepth 65536 in
set_option maxHeartbeats 40000000 in
theorem tn_250_jf {p : Program} {l : Launch} {e : Env} {R : Room} {s : State} {m : MethodId} {args : Array Value} {below : List Frame} {meth : Method} {c : Code} {T0 : State} {locs : List Loc} {cells slots : Nat} {Z : State} {a0 : Array Value} {h0 : Heap} (p1 : Int32) (p2 : Int32) (q3 : Int64) (p4 : Int32) (p5 : Int32) (q6 : Int64) (va8 : Int32) (va9 : Int32) (vd10 : Int64) (va12 : Int32) (va13 : Int32) (va14 : Int32) (va15 : Int32) (va16 : Int32) (vd17 : Int64) (vk19 : Addr) (vk20 : Addr) (va21 : Int32) (vv22 : Addr) (va23 : Int32) (va24 : Int32) (va25 : Int32) (va26 : Int32) (va27 : Int32)
    (X0 : Stand p l e R s m args below meth c T0 locs cells slots) (hx : p.tables.exec = Jvm.exec) (hZ : Z.Warmed39 s.vm) (hw : ∀ d ∈ tables_1, d.before a0 Z = true) (hby : c.code = code) (hml : c.maxLocals = 28) (hown : s.vm.findClass "com/example/crackline/crackline/SeenValuesAddPinLaw" = some m.cls) (e0 : T0.heap = h0) (hc252 : ¬ (va23 = (0 : Int32))) (hc257 : va24 = (0 : Int32)) (hc264 : va21 = (0 : Int32)) (hc272 : va25 = (1 : Int32)) (hc277 : va26 = (0 : Int32)) (hc282 : va27 = (0 : Int32)) :
    ∃ (T' : State), Stand p l e R s m args below meth c T' locs cells slots ∧ T'.heap = h0 ∧
      ∀ target, Steps p.tables e below (T'.setTop (mkF m 290 #[.val (.int p1), .val (.int p2), .val (.long q3), .second, .val (.int p4), .val (.int p5), .val (.long q6), .second, .val (.int va8), .val (.int va9), .val (.long vd10), .second, .val (.int va12), .val (.int va13), .val (.int va14), .val (.int va15), .val (.int va16), .val (.long vd17), .second, .val (.ref vk19), .val (.ref vk20), .val (.int va21), .val (.ref vv22), .val (.int va23), .val (.int va24), .val (.int va25), .val (.int va26), .val (.int va27)] [(.int (1 : Int32))])) target → Steps p.tables e below (T0.setTop (mkF m 250 #[.val (.int p1), .val (.int p2), .val (.long q3), .second, .val (.int p4), .val (.int p5), .val (.long q6), .second, .val (.int va8), .val (.int va9), .val (.long vd10), .second, .val (.int va12), .val (.int va13), .val (.int va14), .val (.int va15), .val (.int va16), .val (.long vd17), .second, .val (.ref vk19), .val (.ref vk20), .val (.int va21), .val (.ref vv22), .val (.int va23), .val (.int va24), .val (.int va25), .val (.int va26), .val (.int va27)] [])) target := by
  refine ⟨T0, X0, e0, fun target kt => ?_⟩
  show Steps p.tables e below (T0.setTop (mkF m 250 #[.val (.int p1), .val (.int p2), .val (.long q3), .second, .val (.int p4), .val (.int p5), .val (.long q6), .second, .val (.int va8), .val (.int va9), .val (.long vd10), .second, .val (.int va12), .val (.int va13), .val (.int va14), .val (.int va15), .val (.int va16), .val (.long vd17), .second, .val (.ref vk19), .val (.ref vk20), .val (.int va21), .val (.ref vv22), .val (.int va23), .val (.int va24), .val (.int va25), .val (.int va26), .val (.int va27)] [])) _
  refine XS.iload X0.here hx rfl (hb hby at_250) rfl ?_
  show Steps p.tables e below (T0.setTop (mkF m 252 #[.val (.int p1), .val (.int p2), .val (.long q3), .second, .val (.int p4), .val (.int p5), .val (.long q6), .second, .val (.int va8), .val (.int va9), .val (.long vd10), .second, .val (.int va12), .val (.int va13), .val (.int va14), .val (.int va15), .val (.int va16), .val (.long vd17), .second, .val (.ref vk19), .val (.ref vk20), .val (.int va21), .val (.ref vv22), .val (.int va23), .val (.int va24), .val (.int va25), .val (.int va26), .val (.int va27)] [(.int va23)])) _
  refine XS.ifNo X0.here hx rfl (hb hby at_252) rfl ((if0 _ _).trans (feq hc252).1) ?_
  show Steps p.tables e below (T0.setTop (mkF m 255 #[.val (.int p1), .val (.int p2), .val (.long q3), .second, .val (.int p4), .val (.int p5), .val (.long q6), .second, .val (.int va8), .val (.int va9), .val (.long vd10), .second, .val (.int va12), .val (.int va13), .val (.int va14), .val (.int va15), .val (.int va16), .val (.long vd17), .second, .val (.ref vk19), .val (.ref vk20), .val (.int va21), .val (.ref vv22), .val (.int va23), .val (.int va24), .val (.int va25), .val (.int va26), .val (.int va27)] [])) _
  refine XS.iload X0.here hx rfl (hb hby at_255) rfl ?_
  show Steps p.tables e below (T0.setTop (mkF m 257 #[.val (.int p1), .val (.int p2), .val (.long q3), .second, .val (.int p4), .val (.int p5), .val (.long q6), .second, .val (.int va8), .val (.int va9), .val (.long vd10), .second, .val (.int va12), .val (.int va13), .val (.int va14), .val (.int va15), .val (.int va16), .val (.long vd17), .second, .val (.ref vk19), .val (.ref vk20), .val (.int va21), .val (.ref vv22), .val (.int va23), .val (.int va24), .val (.int va25), .val (.int va26), .val (.int va27)] [(.int va24)])) _
  refine XS.ifNo X0.here hx rfl (hb hby at_257) rfl ((if0 _ _).trans (teq hc257).2) ?_
  show Steps p.tables e below (T0.setTop (mkF m 260 #[.val (.int p1), .val (.int p2), .val (.long q3), .second, .val (.int p4), .val (.int p5), .val (.long q6), .second, .val (.int va8), .val (.int va9), .val (.long vd10), .second, .val (.int va12), .val (.int va13), .val (.int va14), .val (.int va15), .val (.int va16), .val (.long vd17), .second, .val (.ref vk19), .val (.ref vk20), .val (.int va21), .val (.ref vv22), .val (.int va23), .val (.int va24), .val (.int va25), .val (.int va26), .val (.int va27)] [])) _
  refine XS.iload X0.here hx rfl (hb hby at_260) rfl ?_
  show Steps p.tables e below (T0.setTop (mkF m 262 #[.val (.int p1), .val (.int p2), .val (.long q3), .second, .val (.int p4), .val (.int p5), .val (.long q6), .second, .val (.int va8), .val (.int va9), .val (.long vd10), .second, .val (.int va12), .val (.int va13), .val (.int va14), .val (.int va15), .val (.int va16), .val (.long vd17), .second, .val (.ref vk19), .val (.ref vk20), .val (.int va21), .val (.ref vv22), .val (.int va23), .val (.int va24), .val (.int va25), .val (.int va26), .val (.int va27)] [(.int va25)])) _
  refine XS.iload X0.here hx rfl (hb hby at_262) rfl ?_
  show Steps p.tables e below (T0.setTop (mkF m 264 #[.val (.int p1), .val (.int p2), .val (.long q3), .second, .val (.int p4), .val (.int p5), .val (.long q6), .second, .val (.int va8), .val (.int va9), .val (.long vd10), .second, .val (.int va12), .val (.int va13), .val (.int va14), .val (.int va15), .val (.int va16), .val (.long vd17), .second, .val (.ref vk19), .val (.ref vk20), .val (.int va21), .val (.ref vv22), .val (.int va23), .val (.int va24), .val (.int va25), .val (.int va26), .val (.int va27)] [(.int va21), (.int va25)])) _
  refine XS.ifNo X0.here hx rfl (hb hby at_264) rfl ((if0 _ _).trans (teq hc264).2) ?_
  show Steps p.tables e below (T0.setTop (mkF m 267 #[.val (.int p1), .val (.int p2), .val (.long q3), .second, .val (.int p4), .val (.int p5), .val (.long q6), .second, .val (.int va8), .val (.int va9), .val (.long vd10), .second, .val (.int va12), .val (.int va13), .val (.int va14), .val (.int va15), .val (.int va16), .val (.long vd17), .second, .val (.ref vk19), .val (.ref vk20), .val (.int va21), .val (.ref vv22), .val (.int va23), .val (.int va24), .val (.int va25), .val (.int va26), .val (.int va27)] [(.int va25)])) _
  refine XS.iconst X0.here hx rfl (hb hby at_267) ?_
  show Steps p.tables e below (T0.setTop (mkF m 268 #[.val (.int p1), .val (.int p2), .val (.long q3), .second, .val (.int p4), .val (.int p5), .val (.long q6), .second, .val (.int va8), .val (.int va9), .val (.long vd10), .second, .val (.int va12), .val (.int va13), .val (.int va14), .val (.int va15), .val (.int va16), .val (.long vd17), .second, .val (.ref vk19), .val (.ref vk20), .val (.int va21), .val (.ref vv22), .val (.int va23), .val (.int va24), .val (.int va25), .val (.int va26), .val (.int va27)] [(.int (1 : Int32)), (.int va25)])) _
  refine XS.goto X0.here hx rfl (pc0 := 268) (pc' := 272) rfl (hb hby at_268) (by decide) (by decide) ?_
  show Steps p.tables e below (T0.setTop (mkF m 272 #[.val (.int p1), .val (.int p2), .val (.long q3), .second, .val (.int p4), .val (.int p5), .val (.long q6), .second, .val (.int va8), .val (.int va9), .val (.long vd10), .second, .val (.int va12), .val (.int va13), .val (.int va14), .val (.int va15), .val (.int va16), .val (.long vd17), .second, .val (.ref vk19), .val (.ref vk20), .val (.int va21), .val (.ref vv22), .val (.int va23), .val (.int va24), .val (.int va25), .val (.int va26), .val (.int va27)] [(.int (1 : Int32)), (.int va25)])) _
  refine XS.icmpNo X0.here hx rfl (hb hby at_272) rfl (teq hc272).2 ?_
  show Steps p.tables e below (T0.setTop (mkF m 275 #[.val (.int p1), .val (.int p2), .val (.long q3), .second, .val (.int p4), .val (.int p5), .val (.long q6), .second, .val (.int va8), .val (.int va9), .val (.long vd10), .second, .val (.int va12), .val (.int va13), .val (.int va14), .val (.int va15), .val (.int va16), .val (.long vd17), .second, .val (.ref vk19), .val (.ref vk20), .val (.int va21), .val (.ref vv22), .val (.int va23), .val (.int va24), .val (.int va25), .val (.int va26), .val (.int va27)] [])) _
  refine XS.iload X0.here hx rfl (hb hby at_275) rfl ?_
  show Steps p.tables e below (T0.setTop (mkF m 277 #[.val (.int p1), .val (.int p2), .val (.long q3), .second, .val (.int p4), .val (.int p5), .val (.long q6), .second, .val (.int va8), .val (.int va9), .val (.long vd10), .second, .val (.int va12), .val (.int va13), .val (.int va14), .val (.int va15), .val (.int va16), .val (.long vd17), .second, .val (.ref vk19), .val (.ref vk20), .val (.int va21), .val (.ref vv22), .val (.int va23), .val (.int va24), .val (.int va25), .val (.int va26), .val (.int va27)] [(.int va26)])) _
  refine XS.ifNo X0.here hx rfl (hb hby at_277) rfl ((if0 _ _).trans (teq hc277).2) ?_
  show Steps p.tables e below (T0.setTop (mkF m 280 #[.val (.int p1), .val (.int p2), .val (.long q3), .second, .val (.int p4), .val (.int p5), .val (.long q6), .second, .val (.int va8), .val (.int va9), .val (.long vd10), .second, .val (.int va12), .val (.int va13), .val (.int va14), .val (.int va15), .val (.int va16), .val (.long vd17), .second, .val (.ref vk19), .val (.ref vk20), .val (.int va21), .val (.ref vv22), .val (.int va23), .val (.int va24), .val (.int va25), .val (.int va26), .val (.int va27)] [])) _
  refine XS.iload X0.here hx rfl (hb hby at_280) rfl ?_
  show Steps p.tables e below (T0.setTop (mkF m 282 #[.val (.int p1), .val (.int p2), .val (.long q3), .second, .val (.int p4), .val (.int p5), .val (.long q6), .second, .val (.int va8), .val (.int va9), .val (.long vd10), .second, .val (.int va12), .val (.int va13), .val (.int va14), .val (.int va15), .val (.int va16), .val (.long vd17), .second, .val (.ref vk19), .val (.ref vk20), .val (.int va21), .val (.ref vv22), .val (.int va23), .val (.int va24), .val (.int va25), .val (.int va26), .val (.int va27)] [(.int va27)])) _
  refine XS.ifNo X0.here hx rfl (hb hby at_282) rfl ((if0 _ _).trans (teq hc282).2) ?_
  show Steps p.tables e below (T0.setTop (mkF m 285 #[.val (.int p1), .val (.int p2), .val (.long q3), .second, .val (.int p4), .val (.int p5), .val (.long q6), .second, .val (.int va8), .val (.int va9), .val (.long vd10), .second, .val (.int va12), .val (.int va13), .val (.int va14), .val (.int va15), .val (.int va16), .val (.long vd17), .second, .val (.ref vk19), .val (.ref vk20), .val (.int va21), .val (.ref vv22), .val (.int va23), .val (.int va24), .val (.int va25), .val (.int va26), .val (.int va27)] [])) _
  refine XS.iconst X0.here hx rfl (hb hby at_285) ?_
  show Steps p.tables e below (T0.setTop (mkF m 286 #[.val (.int p1), .val (.int p2), .val (.long q3), .second, .val (.int p4), .val (.int p5), .val (.long q6), .second, .val (.int va8), .val (.int va9), .val (.long vd10), .second, .val (.int va12), .val (.int va13), .val (.int va14), .val (.int va15), .val (.int va16), .val (.long vd17), .second, .val (.ref vk19), .val (.ref vk20), .val (.int va21), .val (.ref vv22), .val (.int va23), .val (.int va24), .val (.int va25), .val (.int va26), .val (.int va27)] [(.int (1 : Int32))])) _
  refine XS.goto X0.here hx rfl (pc0 := 286) (pc' := 290) rfl (hb hby at_286) (by decide) (by decide) ?_
  exact kt
set_option maxRecDepth 65536 in
set_option maxHeartbeats 40000000 in
theorem tn_250_jt {p : Program} {l : Launch} {e : Env} {R : Room} {s : State} {m : MethodId} {args : Array Value} {below : List Frame} {meth : Method} {c : Code} {T0 : State} {locs : List Loc} {cells slots : Nat} {Z : State} {a0 : Array Value} {h0 : Heap} (p1 : Int32) (p2 : Int32) (q3 : Int64) (p4 : Int32) (p5 : Int32) (q6 : Int64) (va8 : Int32) (va9 : Int32) (vd10 : Int64) (va12 : Int32) (va13 : Int32) (va14 : Int32) (va15 : Int32) (va16 : Int32) (vd17 : Int64) (vk19 : Addr) (vk20 : Addr) (va21 : Int32) (vv22 : Addr) (va23 : Int32) (va24 : Int32) (va25 : Int32) (va26 : Int32) (va27 : Int32)
    (X0 : Stand p l e R s m args below meth c T0 locs cells slots) (hx : p.tables.exec = Jvm.exec) (hZ : Z.Warmed39 s.vm) (hw : ∀ d ∈ tables_1, d.before a0 Z = true) (hby : c.code = code) (hml : c.maxLocals = 28) (hown : s.vm.findClass "com/example/crackline/crackline/SeenValuesAddPinLaw" = some m.cls) (e0 : T0.heap = h0) (hc252 : ¬ (va23 = (0 : Int32))) (hc257 : va24 = (0 : Int32)) (hc264 : ¬ (va21 = (0 : Int32))) (hc272 : va25 = (0 : Int32)) (hc277 : va26 = (0 : Int32)) (hc282 : va27 = (0 : Int32)) :
    ∃ (T' : State), Stand p l e R s m args below meth c T' locs cells slots ∧ T'.heap = h0 ∧
      ∀ target, Steps p.tables e below (T'.setTop (mkF m 290 #[.val (.int p1), .val (.int p2), .val (.long q3), .second, .val (.int p4), .val (.int p5), .val (.long q6), .second, .val (.int va8), .val (.int va9), .val (.long vd10), .second, .val (.int va12), .val (.int va13), .val (.int va14), .val (.int va15), .val (.int va16), .val (.long vd17), .second, .val (.ref vk19), .val (.ref vk20), .val (.int va21), .val (.ref vv22), .val (.int va23), .val (.int va24), .val (.int va25), .val (.int va26), .val (.int va27)] [(.int (1 : Int32))])) target → Steps p.tables e below (T0.setTop (mkF m 250 #[.val (.int p1), .val (.int p2), .val (.long q3), .second, .val (.int p4), .val (.int p5), .val (.long q6), .second, .val (.int va8), .val (.int va9), .val (.long vd10), .second, .val (.int va12), .val (.int va13), .val (.int va14), .val (.int va15), .val (.int va16), .val (.long vd17), .second, .val (.ref vk19), .val (.ref vk20), .val (.int va21), .val (.ref vv22), .val (.int va23), .val (.int va24), .val (.int va25), .val (.int va26), .val (.int va27)] [])) target := by
  refine ⟨T0, X0, e0, fun target kt => ?_⟩
  show Steps p.tables e below (T0.setTop (mkF m 250 #[.val (.int p1), .val (.int p2), .val (.long q3), .second, .val (.int p4), .val (.int p5), .val (.long q6), .second, .val (.int va8), .val (.int va9), .val (.long vd10), .second, .val (.int va12), .val (.int va13), .val (.int va14), .val (.int va15), .val (.int va16), .val (.long vd17), .second, .val (.ref vk19), .val (.ref vk20), .val (.int va21), .val (.ref vv22), .val (.int va23), .val (.int va24), .val (.int va25), .val (.int va26), .val (.int va27)] [])) _
  refine XS.iload X0.here hx rfl (hb hby at_250) rfl ?_
  show Steps p.tables e below (T0.setTop (mkF m 252 #[.val (.int p1), .val (.int p2), .val (.long q3), .second, .val (.int p4), .val (.int p5), .val (.long q6), .second, .val (.int va8), .val (.int va9), .val (.long vd10), .second, .val (.int va12), .val (.int va13), .val (.int va14), .val (.int va15), .val (.int va16), .val (.long vd17), .second, .val (.ref vk19), .val (.ref vk20), .val (.int va21), .val (.ref vv22), .val (.int va23), .val (.int va24), .val (.int va25), .val (.int va26), .val (.int va27)] [(.int va23)])) _
  refine XS.ifNo X0.here hx rfl (hb hby at_252) rfl ((if0 _ _).trans (feq hc252).1) ?_
  show Steps p.tables e below (T0.setTop (mkF m 255 #[.val (.int p1), .val (.int p2), .val (.long q3), .second, .val (.int p4), .val (.int p5), .val (.long q6), .second, .val (.int va8), .val (.int va9), .val (.long vd10), .second, .val (.int va12), .val (.int va13), .val (.int va14), .val (.int va15), .val (.int va16), .val (.long vd17), .second, .val (.ref vk19), .val (.ref vk20), .val (.int va21), .val (.ref vv22), .val (.int va23), .val (.int va24), .val (.int va25), .val (.int va26), .val (.int va27)] [])) _
  refine XS.iload X0.here hx rfl (hb hby at_255) rfl ?_
  show Steps p.tables e below (T0.setTop (mkF m 257 #[.val (.int p1), .val (.int p2), .val (.long q3), .second, .val (.int p4), .val (.int p5), .val (.long q6), .second, .val (.int va8), .val (.int va9), .val (.long vd10), .second, .val (.int va12), .val (.int va13), .val (.int va14), .val (.int va15), .val (.int va16), .val (.long vd17), .second, .val (.ref vk19), .val (.ref vk20), .val (.int va21), .val (.ref vv22), .val (.int va23), .val (.int va24), .val (.int va25), .val (.int va26), .val (.int va27)] [(.int va24)])) _
  refine XS.ifNo X0.here hx rfl (hb hby at_257) rfl ((if0 _ _).trans (teq hc257).2) ?_
  show Steps p.tables e below (T0.setTop (mkF m 260 #[.val (.int p1), .val (.int p2), .val (.long q3), .second, .val (.int p4), .val (.int p5), .val (.long q6), .second, .val (.int va8), .val (.int va9), .val (.long vd10), .second, .val (.int va12), .val (.int va13), .val (.int va14), .val (.int va15), .val (.int va16), .val (.long vd17), .second, .val (.ref vk19), .val (.ref vk20), .val (.int va21), .val (.ref vv22), .val (.int va23), .val (.int va24), .val (.int va25), .val (.int va26), .val (.int va27)] [])) _
  refine XS.iload X0.here hx rfl (hb hby at_260) rfl ?_
  show Steps p.tables e below (T0.setTop (mkF m 262 #[.val (.int p1), .val (.int p2), .val (.long q3), .second, .val (.int p4), .val (.int p5), .val (.long q6), .second, .val (.int va8), .val (.int va9), .val (.long vd10), .second, .val (.int va12), .val (.int va13), .val (.int va14), .val (.int va15), .val (.int va16), .val (.long vd17), .second, .val (.ref vk19), .val (.ref vk20), .val (.int va21), .val (.ref vv22), .val (.int va23), .val (.int va24), .val (.int va25), .val (.int va26), .val (.int va27)] [(.int va25)])) _
  refine XS.iload X0.here hx rfl (hb hby at_262) rfl ?_
  show Steps p.tables e below (T0.setTop (mkF m 264 #[.val (.int p1), .val (.int p2), .val (.long q3), .second, .val (.int p4), .val (.int p5), .val (.long q6), .second, .val (.int va8), .val (.int va9), .val (.long vd10), .second, .val (.int va12), .val (.int va13), .val (.int va14), .val (.int va15), .val (.int va16), .val (.long vd17), .second, .val (.ref vk19), .val (.ref vk20), .val (.int va21), .val (.ref vv22), .val (.int va23), .val (.int va24), .val (.int va25), .val (.int va26), .val (.int va27)] [(.int va21), (.int va25)])) _
  refine XS.ifYes X0.here hx rfl (pc0 := 264) (pc' := 271) rfl (hb hby at_264) rfl ((if0 _ _).trans (feq hc264).2) (by decide) (by decide) ?_
  show Steps p.tables e below (T0.setTop (mkF m 271 #[.val (.int p1), .val (.int p2), .val (.long q3), .second, .val (.int p4), .val (.int p5), .val (.long q6), .second, .val (.int va8), .val (.int va9), .val (.long vd10), .second, .val (.int va12), .val (.int va13), .val (.int va14), .val (.int va15), .val (.int va16), .val (.long vd17), .second, .val (.ref vk19), .val (.ref vk20), .val (.int va21), .val (.ref vv22), .val (.int va23), .val (.int va24), .val (.int va25), .val (.int va26), .val (.int va27)] [(.int va25)])) _
  refine XS.iconst X0.here hx rfl (hb hby at_271) ?_
  show Steps p.tables e below (T0.setTop (mkF m 272 #[.val (.int p1), .val (.int p2), .val (.long q3), .second, .val (.int p4), .val (.int p5), .val (.long q6), .second, .val (.int va8), .val (.int va9), .val (.long vd10), .second, .val (.int va12), .val (.int va13), .val (.int va14), .val (.int va15), .val (.int va16), .val (.long vd17), .second, .val (.ref vk19), .val (.ref vk20), .val (.int va21), .val (.ref vv22), .val (.int va23), .val (.int va24), .val (.int va25), .val (.int va26), .val (.int va27)] [(.int (0 : Int32)), (.int va25)])) _
  refine XS.icmpNo X0.here hx rfl (hb hby at_272) rfl (teq hc272).2 ?_
  show Steps p.tables e below (T0.setTop (mkF m 275 #[.val (.int p1), .val (.int p2), .val (.long q3), .second, .val (.int p4), .val (.int p5), .val (.long q6), .second, .val (.int va8), .val (.int va9), .val (.long vd10), .second, .val (.int va12), .val (.int va13), .val (.int va14), .val (.int va15), .val (.int va16), .val (.long vd17), .second, .val (.ref vk19), .val (.ref vk20), .val (.int va21), .val (.ref vv22), .val (.int va23), .val (.int va24), .val (.int va25), .val (.int va26), .val (.int va27)] [])) _
  refine XS.iload X0.here hx rfl (hb hby at_275) rfl ?_
  show Steps p.tables e below (T0.setTop (mkF m 277 #[.val (.int p1), .val (.int p2), .val (.long q3), .second, .val (.int p4), .val (.int p5), .val (.long q6), .second, .val (.int va8), .val (.int va9), .val (.long vd10), .second, .val (.int va12), .val (.int va13), .val (.int va14), .val (.int va15), .val (.int va16), .val (.long vd17), .second, .val (.ref vk19), .val (.ref vk20), .val (.int va21), .val (.ref vv22), .val (.int va23), .val (.int va24), .val (.int va25), .val (.int va26), .val (.int va27)] [(.int va26)])) _
  refine XS.ifNo X0.here hx rfl (hb hby at_277) rfl ((if0 _ _).trans (teq hc277).2) ?_
  show Steps p.tables e below (T0.setTop (mkF m 280 #[.val (.int p1), .val (.int p2), .val (.long q3), .second, .val (.int p4), .val (.int p5), .val (.long q6), .second, .val (.int va8), .val (.int va9), .val (.long vd10), .second, .val (.int va12), .val (.int va13), .val (.int va14), .val (.int va15), .val (.int va16), .val (.long vd17), .second, .val (.ref vk19), .val (.ref vk20), .val (.int va21), .val (.ref vv22), .val (.int va23), .val (.int va24), .val (.int va25), .val (.int va26), .val (.int va27)] [])) _
  refine XS.iload X0.here hx rfl (hb hby at_280) rfl ?_
  show Steps p.tables e below (T0.setTop (mkF m 282 #[.val (.int p1), .val (.int p2), .val (.long q3), .second, .val (.int p4), .val (.int p5), .val (.long q6), .second, .val (.int va8), .val (.int va9), .val (.long vd10), .second, .val (.int va12), .val (.int va13), .val (.int va14), .val (.int va15), .val (.int va16), .val (.long vd17), .second, .val (.ref vk19), .val (.ref vk20), .val (.int va21), .val (.ref vv22), .val (.int va23), .val (.int va24), .val (.int va25), .val (.int va26), .val (.int va27)] [(.int va27)])) _
  refine XS.ifNo X0.here hx rfl (hb hby at_282) rfl ((if0 _ _).trans (teq hc282).2) ?_
  show Steps p.tables e below (T0.setTop (mkF m 285 #[.val (.int p1), .val (.int p2), .val (.long q3), .second, .val (.int p4), .val (.int p5), .val (.long q6), .second, .val (.int va8), .val (.int va9), .val (.long vd10), .second, .val (.int va12), .val (.int va13), .val (.int va14), .val (.int va15), .val (.int va16), .val (.long vd17), .second, .val (.ref vk19), .val (.ref vk20), .val (.int va21), .val (.ref vv22), .val (.int va23), .val (.int va24), .val (.int va25), .val (.int va26), .val (.int va27)] [])) _
  refine XS.iconst X0.here hx rfl (hb hby at_285) ?_
  show Steps p.tables e below (T0.setTop (mkF m 286 #[.val (.int p1), .val (.int p2), .val (.long q3), .second, .val (.int p4), .val (.int p5), .val (.long q6), .second, .val (.int va8), .val (.int va9), .val (.long vd10), .second, .val (.int va12), .val (.int va13), .val (.int va14), .val (.int va15), .val (.int va16), .val (.long vd17), .second, .val (.ref vk19), .val (.ref vk20), .val (.int va21), .val (.ref vv22), .val (.int va23), .val (.int va24), .val (.int va25), .val (.int va26), .val (.int va27)] [(.int (1 : Int32))])) _
  refine XS.goto X0.here hx rfl (pc0 := 286) (pc' := 290) rfl (hb hby at_286) (by decide) (by decide) ?_
  exact kt
theorem own_p250 {p : Program} {l : Launch} {e : Env} {R : Room} {s : State} {m : MethodId} {args : Array Value} {below : List Frame} {meth : Method} {c : Code} {T0 : State} {locs : List Loc} {cells slots : Nat} {Z : State} {a0 : Array Value} {h0 : Heap} (p1 : Int32) (p2 : Int32) (q3 : Int64) (p4 : Int32) (p5 : Int32) (q6 : Int64) (va8 : Int32) (va9 : Int32) (vd10 : Int64) (va12 : Int32) (va13 : Int32) (va14 : Int32) (va15 : Int32) (va16 : Int32) (vd17 : Int64) (vk19 : Addr) (vk20 : Addr) (va21 : Int32) (vv22 : Addr) (va23 : Int32) (va24 : Int32) (va25 : Int32) (va26 : Int32) (va27 : Int32)
    (X0 : Stand p l e R s m args below meth c T0 locs cells slots) (hx : p.tables.exec = Jvm.exec) (hZ : Z.Warmed39 s.vm) (hw : ∀ d ∈ tables_1, d.before a0 Z = true) (hby : c.code = code) (hml : c.maxLocals = 28) (hown : s.vm.findClass "com/example/crackline/crackline/SeenValuesAddPinLaw" = some m.cls) (e0 : T0.heap = h0) (h23 : va23 = (1 : Int32)) (h24 : va24 = (0 : Int32)) (h25 : va25 = if va21 = (0 : Int32) then (1 : Int32) else (0 : Int32)) (h26 : va26 = (0 : Int32)) (h27 : va27 = (0 : Int32)) :
    ∃ (T' : State), Stand p l e R s m args below meth c T' locs cells slots ∧ T'.heap = h0 ∧
      ∀ target, Steps p.tables e below (T'.setTop (mkF m 290 #[.val (.int p1), .val (.int p2), .val (.long q3), .second, .val (.int p4), .val (.int p5), .val (.long q6), .second, .val (.int va8), .val (.int va9), .val (.long vd10), .second, .val (.int va12), .val (.int va13), .val (.int va14), .val (.int va15), .val (.int va16), .val (.long vd17), .second, .val (.ref vk19), .val (.ref vk20), .val (.int va21), .val (.ref vv22), .val (.int va23), .val (.int va24), .val (.int va25), .val (.int va26), .val (.int va27)] [(.int (1 : Int32))])) target → Steps p.tables e below (T0.setTop (mkF m 250 #[.val (.int p1), .val (.int p2), .val (.long q3), .second, .val (.int p4), .val (.int p5), .val (.long q6), .second, .val (.int va8), .val (.int va9), .val (.long vd10), .second, .val (.int va12), .val (.int va13), .val (.int va14), .val (.int va15), .val (.int va16), .val (.long vd17), .second, .val (.ref vk19), .val (.ref vk20), .val (.int va21), .val (.ref vv22), .val (.int va23), .val (.int va24), .val (.int va25), .val (.int va26), .val (.int va27)] [])) target := by
  by_cases q : va21 = (0 : Int32)
  · rw [if_pos q] at h25
    exact tn_250_jf p1 p2 q3 p4 p5 q6 va8 va9 vd10 va12 va13 va14 va15 va16 vd17 vk19 vk20 va21 vv22 va23 va24 va25 va26 va27 X0 hx hZ hw hby hml hown e0 (by rw [h23]; decide) h24 q h25 h26 h27
  · rw [if_neg q] at h25
    exact tn_250_jt p1 p2 q3 p4 p5 q6 va8 va9 vd10 va12 va13 va14 va15 va16 vd17 vk19 vk20 va21 vv22 va23 va24 va25 va26 va27 X0 hx hZ hw hby hml hown e0 (by rw [h23]; decide) h24 q h25 h26 h27
theorem pn_0 : plainName "com/example/crackline/crackline/SeenValuesAddPinLaw" = true := by first | (simp [plainName, overriddenIn]; done) | decide +kernel
theorem pd_0_0 : parseMethodDescriptor "(I)Lcom/example/crackline/crackline/PriceKind;" = some ⟨[.int], some (.object "com/example/crackline/crackline/PriceKind")⟩ := by decide +kernel
theorem pd_0_1 : parseMethodDescriptor "()V" = some ⟨[], none⟩ := by decide +kernel
theorem pd_0_2 : parseMethodDescriptor "(ILcom/example/crackline/crackline/PriceKind;J)Z" = some ⟨[.int, (.object "com/example/crackline/crackline/PriceKind"), .long], some .boolean⟩ := by decide +kernel
theorem ef_0 (m : MethodId) (x0 : Int32) (x1 : Int32) (x2 : Int64) (x3 : Int32) (x4 : Int32) (x5 : Int64) : entryFrame m #[(.int x0), (.int x1), (.long x2), (.int x3), (.int x4), (.long x5)] maxLocals = mkF m 0 #[.val (.int x0), .val (.int x1), .val (.long x2), .second, .val (.int x3), .val (.int x4), .val (.long x5), .second, .unset, .unset, .unset, .unset, .unset, .unset, .unset, .unset, .unset, .unset, .unset, .unset, .unset, .unset, .unset, .unset, .unset, .unset, .unset, .unset] [] := by first | (simp [entryFrame, mkF, argsToLocals, Value.category, maxLocals]; done) | rfl
set_option maxRecDepth 65536 in
set_option maxHeartbeats 40000000 in
theorem rm0 (l : Launch) (Z : State) (a0 : Array Value) (hw : ∀ d ∈ tables_1, d.before a0 Z = true) (ws : List Jvm.Cond) (p1 : Int32) (p2 : Int32) (q3 : Int64) (p4 : Int32) (p5 : Int32) (q6 : Int64) (va12 va13 va14 va15 va16 : Int32) (vd17 : Int64) (vk19 vk20 : Addr) (va21 : Int32) (rr1 rr2 rr3 rr4 rr5 : Int32) (f1 g1 f2 g2 f3 g3 f4 g4 f5 g5 : Nat → Int64) (m1 m2 m3 m4 m5 : Int32) (h0 : Heap) (n0 : Nat) (Z0 : n0 ≤ h0.size)
    (h12 : va12 = if (p5 &&& (1 : Int32)) = (0 : Int32) then (0 : Int32) else (1 : Int32)) (h13 : va13 = if (p5 &&& (2 : Int32)) = (0 : Int32) then (0 : Int32) else (1 : Int32)) (h14 : va14 = if (p5 &&& (4 : Int32)) = (0 : Int32) then (0 : Int32) else (1 : Int32)) (h15 : va15 = if va12 = (0 : Int32) then (own_irem (p4 &&& (2147483647 : Int32)) (429496729 : Int32)) else (own_irem (p1 &&& (2147483647 : Int32)) (429496729 : Int32))) (h16 : va16 = if va13 = (0 : Int32) then (own_irem ((p5.toUInt32 >>> ((3 : Int32) &&& 31).toUInt32).toInt32) (5 : Int32)) else (own_irem (p2 &&& (2147483647 : Int32)) (5 : Int32))) (h17 : vd17 = if va14 = (0 : Int32) then (own_lrem q6 (68719476736 : Int64)) else ((own_lrem q3 (68719476736 : Int64)) + ((q6 &&& (255 : Int64)) - (128 : Int64))))
    (Hk1 : M1 l Z [] (own_irem (p2 &&& (2147483647 : Int32)) (5 : Int32)) h0 n0 (some (.ref vk19))) (Hk2 : M1 l Z [] va16 h0 n0 (some (.ref vk20))) (h21 : va21 = if (own_irem (p1 &&& (2147483647 : Int32)) (429496729 : Int32)) = va15 ∧ (own_irem (p2 &&& (2147483647 : Int32)) (5 : Int32)) = va16 ∧ (own_lrem q3 (68719476736 : Int64)) = vd17 then (1 : Int32) else (0 : Int32))
    (A1 : ∀ (h : Heap) (v ka wa : Addr), Ext h0 h → n0 ≤ h.size → n0 ≤ v → n0 ≤ ka → n0 ≤ wa → own_S Z h v ka wa (fun _ => 0) (fun _ => 0) (0 : Int32) → own_MA l Z [] v ka wa (own_irem (p1 &&& (2147483647 : Int32)) (429496729 : Int32)) vk19 (own_lrem q3 (68719476736 : Int64)) h n0 rr1 f1 g1 m1) (A2 : ∀ (h : Heap) (v ka wa : Addr), Ext h0 h → n0 ≤ h.size → n0 ≤ v → n0 ≤ ka → n0 ≤ wa → own_S Z h v ka wa f1 g1 m1 → own_MA l Z [] v ka wa (own_irem (p1 &&& (2147483647 : Int32)) (429496729 : Int32)) vk19 (own_lrem q3 (68719476736 : Int64)) h n0 rr2 f2 g2 m2) (A3 : ∀ (h : Heap) (v ka wa : Addr), Ext h0 h → n0 ≤ h.size → n0 ≤ v → n0 ≤ ka → n0 ≤ wa → own_S Z h v ka wa f2 g2 m2 → own_MA l Z [] v ka wa va15 vk20 vd17 h n0 rr3 f3 g3 m3) (A4 : ∀ (h : Heap) (v ka wa : Addr), Ext h0 h → n0 ≤ h.size → n0 ≤ v → n0 ≤ ka → n0 ≤ wa → own_S Z h v ka wa f3 g3 m3 → own_MA l Z [] v ka wa va15 vk20 vd17 h n0 rr4 f4 g4 m4) (A5 : ∀ (h : Heap) (v ka wa : Addr), Ext h0 h → n0 ≤ h.size → n0 ≤ v → n0 ≤ ka → n0 ≤ wa → own_S Z h v ka wa f4 g4 m4 → own_MA l Z [] v ka wa (own_irem (p1 &&& (2147483647 : Int32)) (429496729 : Int32)) vk19 (own_lrem q3 (68719476736 : Int64)) h n0 rr5 f5 g5 m5)
    (hr1 : rr1 = (1 : Int32)) (hr2 : rr2 = (0 : Int32)) (hr3 : rr3 = if va21 = (0 : Int32) then (1 : Int32) else (0 : Int32)) (hr4 : rr4 = (0 : Int32)) (hr5 : rr5 = (0 : Int32)) :
    MetFree l x (head1 (Jvm.Cond.code x code maxLocals ret :: ws) room_1) (fun a U => a = #[(.int p1), (.int p2), (.long q3), (.int p4), (.int p5), (.long q6)] ∧ Z.Warmed39 U.vm ∧ U.heap = h0) (fun _ _ _ _ _ => True) (fun _ U o U' => ∃ v L, o = .returned v ∧ (v = some (.int (1 : Int32)) ∧ Fr n0 L) ∧ FrameEnd U o U' L room_1.cells room_1.slots) := by
  refine MetFree.of_bodySF (plainFor_of_name pn_0) hisR ?_
  intro p e s m args below meth c s₁ Bd hml0 hP hK
  obtain ⟨rfl, hZ, hh⟩ := hP
  have hx := Bd.exec
  have hby := Bd.bytes
  have hml : c.maxLocals = 28 := hml0
  have hown : s.vm.findClass "com/example/crackline/crackline/SeenValuesAddPinLaw" = some m.cls := findClass_of_methodNamed Bd.named
  have X0 : Stand p l e room_1 s m #[(.int p1), (.int p2), (.long q3), (.int p4), (.int p5), (.long q6)] below meth c s₁ [] 0 0 := Stand.of_body Bd
  have e0 : s₁.heap = h0 := by rw [← hh, Bd.state]; rfl
  have N0 := Fr.nil n0
  have pre0 : ∀ t, Steps p.tables e below (s₁.setTop (mkF m 0 #[.val (.int p1), .val (.int p2), .val (.long q3), .second, .val (.int p4), .val (.int p5), .val (.long q6), .second, .unset, .unset, .unset, .unset, .unset, .unset, .unset, .unset, .unset, .unset, .unset, .unset, .unset, .unset, .unset, .unset, .unset, .unset, .unset, .unset] [])) t → Steps p.tables e below (s₁.setTop (entryFrame m #[(.int p1), (.int p2), (.long q3), (.int p4), (.int p5), (.long q6)] maxLocals)) t := fun t k => castTop (ef_0 m p1 p2 q3 p4 p5 q6) k
  obtain ⟨TA, XA, eA, kA⟩ := own_p0 p1 p2 q3 p4 p5 q6 va12 h12 X0 hx hZ hw hby hml hown e0
  obtain ⟨TB, XB, eB, kB⟩ := own_p38 p1 p2 q3 p4 p5 q6 (own_irem (p1 &&& (2147483647 : Int32)) (429496729 : Int32)) (own_irem (p2 &&& (2147483647 : Int32)) (5 : Int32)) (own_lrem q3 (68719476736 : Int64)) va12 va13 h13 XA hx hZ hw hby hml hown eA
  obtain ⟨TC, XC, eC, kC⟩ := own_p52 p1 p2 q3 p4 p5 q6 (own_irem (p1 &&& (2147483647 : Int32)) (429496729 : Int32)) (own_irem (p2 &&& (2147483647 : Int32)) (5 : Int32)) (own_lrem q3 (68719476736 : Int64)) va12 va13 va14 h14 XB hx hZ hw hby hml hown eB
  obtain ⟨TD, XD, eD, kD⟩ := own_p66 p1 p2 q3 p4 p5 q6 (own_irem (p1 &&& (2147483647 : Int32)) (429496729 : Int32)) (own_irem (p2 &&& (2147483647 : Int32)) (5 : Int32)) (own_lrem q3 (68719476736 : Int64)) va12 va13 va14 va15 h15 XC hx hZ hw hby hml hown eC
  obtain ⟨TE, XE, eE, kE⟩ := own_p86 p1 p2 q3 p4 p5 q6 (own_irem (p1 &&& (2147483647 : Int32)) (429496729 : Int32)) (own_irem (p2 &&& (2147483647 : Int32)) (5 : Int32)) (own_lrem q3 (68719476736 : Int64)) va12 va13 va14 va15 va16 h16 XD hx hZ hw hby hml hown eD
  obtain ⟨TF, XF, eF, kF⟩ := own_p104 p1 p2 q3 p4 p5 q6 (own_irem (p1 &&& (2147483647 : Int32)) (429496729 : Int32)) (own_irem (p2 &&& (2147483647 : Int32)) (5 : Int32)) (own_lrem q3 (68719476736 : Int64)) va12 va13 va14 va15 va16 vd17 h17 XE hx hZ hw hby hml hown eE
  obtain ⟨_, _, ⟨T7g, L7g, k7g, n7g⟩, -, X7g, ⟨Lc7g, hQ7g, l7g, y7g, z7g⟩, st7g⟩ := Jvm.LawKit.callS XF hx (y := (⟨"com/example/crackline/crackline/SeenValuesAddPinLaw", "kindOf", "(I)Lcom/example/crackline/crackline/PriceKind;"⟩ : MethodName)) hown (mvT hZ (hw _ (List.mem_of_getElem? (i := 3) rfl))) (mvT hZ (hw _ (List.mem_of_getElem? (i := 4) rfl))) (mvT hZ (hw _ (List.mem_of_getElem? (i := 5) rfl))) (mvT hZ (hw _ (List.mem_of_getElem? (i := 6) rfl))) (by decide) (backOf (W := 0) Hk1 hZ (hw _ (List.mem_of_getElem? (i := 6) rfl)) (hw _ (List.mem_of_getElem? (i := 5) rfl)) (by decide) (by decide)) (g := (mkF m 135 #[.val (.int p1), .val (.int p2), .val (.long q3), .second, .val (.int p4), .val (.int p5), .val (.long q6), .second, .val (.int (own_irem (p1 &&& (2147483647 : Int32)) (429496729 : Int32))), .val (.int (own_irem (p2 &&& (2147483647 : Int32)) (5 : Int32))), .val (.long (own_lrem q3 (68719476736 : Int64))), .second, .val (.int va12), .val (.int va13), .val (.int va14), .val (.int va15), .val (.int va16), .val (.long vd17), .second, .unset, .unset, .unset, .unset, .unset, .unset, .unset, .unset, .unset] [(.int (own_irem (p2 &&& (2147483647 : Int32)) (5 : Int32)))])) rfl (by rw [hml]; rfl) (argsL := [(.int (own_irem (p2 &&& (2147483647 : Int32)) (5 : Int32)))]) (rest := []) (lenOf pd_0_0 rfl) rfl (by show 2 * 0 + _ ≤ _; exact Nat.le_of_eq rfl) (hb hby at_135) (fun _ _ => ⟨rfl, eF, (by decide : 0 + 0 ≤ _), (by decide : 0 + 0 ≤ _)⟩)
  dsimp only [Pt.U, Pt.locs, Pt.cells, Pt.slots] at X7g l7g y7g z7g st7g hQ7g
  subst l7g y7g z7g
  obtain ⟨rfl, N7gq, hh7g⟩ := hQ7g
  have N7g := Fr.app N0 N7gq
  obtain ⟨_, _, ⟨T8g, L8g, k8g, n8g⟩, -, X8g, ⟨Lc8g, hQ8g, l8g, y8g, z8g⟩, st8g⟩ := Jvm.LawKit.callS X7g hx (y := (⟨"com/example/crackline/crackline/SeenValuesAddPinLaw", "kindOf", "(I)Lcom/example/crackline/crackline/PriceKind;"⟩ : MethodName)) hown (mvT hZ (hw _ (List.mem_of_getElem? (i := 3) rfl))) (mvT hZ (hw _ (List.mem_of_getElem? (i := 4) rfl))) (mvT hZ (hw _ (List.mem_of_getElem? (i := 5) rfl))) (mvT hZ (hw _ (List.mem_of_getElem? (i := 6) rfl))) (by decide) (backOf (W := 0) Hk2 hZ (hw _ (List.mem_of_getElem? (i := 6) rfl)) (hw _ (List.mem_of_getElem? (i := 5) rfl)) (by decide) (by decide)) (g := (mkF m 142 #[.val (.int p1), .val (.int p2), .val (.long q3), .second, .val (.int p4), .val (.int p5), .val (.long q6), .second, .val (.int (own_irem (p1 &&& (2147483647 : Int32)) (429496729 : Int32))), .val (.int (own_irem (p2 &&& (2147483647 : Int32)) (5 : Int32))), .val (.long (own_lrem q3 (68719476736 : Int64))), .second, .val (.int va12), .val (.int va13), .val (.int va14), .val (.int va15), .val (.int va16), .val (.long vd17), .second, .val (.ref vk19), .unset, .unset, .unset, .unset, .unset, .unset, .unset, .unset] [(.int va16)])) rfl (by rw [hml]; rfl) (argsL := [(.int va16)]) (rest := []) (lenOf pd_0_0 rfl) rfl (by show 2 * 0 + _ ≤ _; exact Nat.le_of_eq rfl) (hb hby at_142) (fun _ _ => ⟨rfl, hh7g, (by decide : 0 + 0 ≤ _), (by decide : 0 + 0 ≤ _)⟩)
  dsimp only [Pt.U, Pt.locs, Pt.cells, Pt.slots] at X8g l8g y8g z8g st8g hQ8g
  subst l8g y8g z8g
  obtain ⟨rfl, N8gq, hh8g⟩ := hQ8g
  have N8g := Fr.app N7g N8gq
  obtain ⟨TH, XH, eH, kH⟩ := own_p147 p1 p2 q3 p4 p5 q6 (own_irem (p1 &&& (2147483647 : Int32)) (429496729 : Int32)) (own_irem (p2 &&& (2147483647 : Int32)) (5 : Int32)) (own_lrem q3 (68719476736 : Int64)) va12 va13 va14 va15 va16 vd17 vk19 vk20 va21 h21 X8g hx hZ hw hby hml hown hh8g
  obtain ⟨T7, h7, X7, e7, E7, A7, D7, -, st7⟩ := newO XH hx hZ hown (hw _ (List.mem_of_getElem? (i := 10) rfl)) (hw _ (List.mem_of_getElem? (i := 11) rfl)) (hw _ (List.mem_of_getElem? (i := 12) rfl)) eH (g := (mkF m 176 #[.val (.int p1), .val (.int p2), .val (.long q3), .second, .val (.int p4), .val (.int p5), .val (.long q6), .second, .val (.int (own_irem (p1 &&& (2147483647 : Int32)) (429496729 : Int32))), .val (.int (own_irem (p2 &&& (2147483647 : Int32)) (5 : Int32))), .val (.long (own_lrem q3 (68719476736 : Int64))), .second, .val (.int va12), .val (.int va13), .val (.int va14), .val (.int va15), .val (.int va16), .val (.long vd17), .second, .val (.ref vk19), .val (.ref vk20), .val (.int va21), .unset, .unset, .unset, .unset, .unset, .unset] [])) rfl (hb hby at_176) (by decide) (by decide)
  obtain ⟨b7, g7⟩ : ∃ z, z = h0.size := ⟨_, rfl⟩
  rw [← g7] at A7 D7 st7
  have F_keys_b7 : Fld Z h7 b7 "com/example/crackline/crackline/SeenValues" "keys" "[J" .null := D7 (Or.inl (hw _ (List.mem_of_getElem? (i := 21) rfl))) (ty := (.array .long)) (by decide)
  have F_words_b7 : Fld Z h7 b7 "com/example/crackline/crackline/SeenValues" "words" "[J" .null := D7 (Or.inl (hw _ (List.mem_of_getElem? (i := 23) rfl))) (ty := (.array .long)) (by decide)
  have F_size_b7 : Fld Z h7 b7 "com/example/crackline/crackline/SeenValues" "size" "I" (.int (0 : Int32)) := D7 (Or.inl (hw _ (List.mem_of_getElem? (i := 78) rfl))) (ty := .int) (by decide)
  have E_b7 := A7
  have g_b7 : n0 ≤ b7 := Nat.le_trans Z0 (Nat.le_of_eq g7.symm)
  have sz_b7 : h0.size ≤ b7 := (Nat.le_trans (Keep.refl h0 []).1 (Nat.le_of_eq g7.symm))
  have K7 : Keep h0 h7 [] := (Keep.refl h0 []).ext E7
  obtain ⟨_, _, ⟨T8, L8, k8, n8⟩, -, X8, ⟨Lc8, hQ8, l8, y8, z8⟩, st8⟩ := X7.specialBack hx (y := (⟨"com/example/crackline/crackline/SeenValues", "<init>", "()V"⟩ : MethodName)) rfl hown (mvT hZ (hw _ (List.mem_of_getElem? (i := 13) rfl))) (mvT hZ (hw _ (List.mem_of_getElem? (i := 14) rfl))) (mvT hZ (hw _ (List.mem_of_getElem? (i := 15) rfl))) (by decide) (backOf (W := 1) (rm2 l Z a0 hw [] b7 _ _ h7 n0 (Nat.le_trans Z0 E7.1) F_size_b7 E_b7 F_keys_b7 g_b7 F_words_b7) hZ (hw _ (List.mem_of_getElem? (i := 15) rfl)) (hw _ (List.mem_of_getElem? (i := 12) rfl)) (by decide) (by decide)) (g := (mkF m 180 #[.val (.int p1), .val (.int p2), .val (.long q3), .second, .val (.int p4), .val (.int p5), .val (.long q6), .second, .val (.int (own_irem (p1 &&& (2147483647 : Int32)) (429496729 : Int32))), .val (.int (own_irem (p2 &&& (2147483647 : Int32)) (5 : Int32))), .val (.long (own_lrem q3 (68719476736 : Int64))), .second, .val (.int va12), .val (.int va13), .val (.int va14), .val (.int va15), .val (.int va16), .val (.long vd17), .second, .val (.ref vk19), .val (.ref vk20), .val (.int va21), .unset, .unset, .unset, .unset, .unset, .unset] [(.ref b7), (.ref b7)])) rfl (by rw [hml]; rfl) (Steps.refl _) (a := b7) (argsL := []) (rest := [(.ref b7)]) (lenOf pd_0_1 rfl) rfl (by show 2 * 0 + _ ≤ _; exact Nat.le_of_eq rfl) (hb hby at_180) (fun _ _ => ⟨rfl, e7, (by decide : 1 + 2 ≤ _), (by decide : 3 + 2048 ≤ _)⟩)
  dsimp only [Pt.U, Pt.locs, Pt.cells, Pt.slots] at X8 l8 y8 z8 st8 hQ8
  subst l8 y8 z8
  obtain ⟨rfl, N8q, K8, ka, wa, gka, gwa, ska, swa, HS8⟩ := hQ8
  have KK8 : Keep h0 T8.heap [] := K7.trans K8 (allS (Or.inr sz_b7) all0)
  have N8 := Fr.app N8g N8q
  obtain ⟨cq9, kq9, q9a, q9b, q9c⟩ := isOf hZ rfl HS8.1
  obtain ⟨_, _, ⟨T9, L9, k9, n9⟩, -, X9, ⟨Lc9, hQ9, l9, y9, z9⟩, st9⟩ := X8.virtualBack hx (y := (⟨"com/example/crackline/crackline/SeenValues", "add", "(ILcom/example/crackline/crackline/PriceKind;J)Z"⟩ : MethodName)) (z := (⟨"com/example/crackline/crackline/SeenValues", "add", "(ILcom/example/crackline/crackline/PriceKind;J)Z"⟩ : MethodName)) hown (mvT hZ (hw _ (List.mem_of_getElem? (i := 24) rfl))) (mvT hZ (hw _ (List.mem_of_getElem? (i := 25) rfl))) (notFace_of_selects (args := #[]) (mvT hZ (hw _ (List.mem_of_getElem? (i := 27) rfl)))) (mvT hZ (hw _ (List.mem_of_getElem? (i := 27) rfl))) (mvT hZ (hw _ (List.mem_of_getElem? (i := 26) rfl))) (by decide) (backOf (W := 0) (A1 T8.heap b7 ka wa (own_ext KK8) (Nat.le_trans Z0 KK8.1) g_b7 gka gwa HS8) hZ (hw _ (List.mem_of_getElem? (i := 28) rfl)) (hw _ (List.mem_of_getElem? (i := 12) rfl)) (by decide) (by decide)) q9a q9c (g := (mkF m 193 #[.val (.int p1), .val (.int p2), .val (.long q3), .second, .val (.int p4), .val (.int p5), .val (.long q6), .second, .val (.int (own_irem (p1 &&& (2147483647 : Int32)) (429496729 : Int32))), .val (.int (own_irem (p2 &&& (2147483647 : Int32)) (5 : Int32))), .val (.long (own_lrem q3 (68719476736 : Int64))), .second, .val (.int va12), .val (.int va13), .val (.int va14), .val (.int va15), .val (.int va16), .val (.long vd17), .second, .val (.ref vk19), .val (.ref vk20), .val (.int va21), .val (.ref b7), .unset, .unset, .unset, .unset, .unset] [(.long (own_lrem q3 (68719476736 : Int64))), (.ref vk19), (.int (own_irem (p1 &&& (2147483647 : Int32)) (429496729 : Int32))), (.ref b7)])) rfl (by rw [hml]; rfl) (Steps.refl _) (argsL := [(.int (own_irem (p1 &&& (2147483647 : Int32)) (429496729 : Int32))), (.ref vk19), (.long (own_lrem q3 (68719476736 : Int64)))]) (rest := []) (lenOf pd_0_2 rfl) rfl (by show 2 * 0 + _ ≤ _; exact Nat.le_of_eq rfl) (hb hby at_193) (fun _ _ => ⟨rfl, rfl, (by decide : 3 + 0 ≤ _), (by decide : 2051 + 0 ≤ _)⟩)
  dsimp only [Pt.U, Pt.locs, Pt.cells, Pt.slots] at X9 l9 y9 z9 st9 hQ9
  subst l9 y9 z9
  obtain ⟨rfl, N9q, K9, HS9⟩ := hQ9
  have KK9 : Keep h0 T9.heap [] := KK8.trans K9 (allS (Or.inr (Nat.le_trans E7.1 ska)) (allS (Or.inr (Nat.le_trans E7.1 swa)) (allS (Or.inr sz_b7) all0)))
  have N9 := Fr.app N8 N9q
  obtain ⟨cq10, kq10, q10a, q10b, q10c⟩ := isOf hZ rfl HS9.1
  obtain ⟨_, _, ⟨T10, L10, k10, n10⟩, -, X10, ⟨Lc10, hQ10, l10, y10, z10⟩, st10⟩ := X9.virtualBack hx (y := (⟨"com/example/crackline/crackline/SeenValues", "add", "(ILcom/example/crackline/crackline/PriceKind;J)Z"⟩ : MethodName)) (z := (⟨"com/example/crackline/crackline/SeenValues", "add", "(ILcom/example/crackline/crackline/PriceKind;J)Z"⟩ : MethodName)) hown (mvT hZ (hw _ (List.mem_of_getElem? (i := 24) rfl))) (mvT hZ (hw _ (List.mem_of_getElem? (i := 25) rfl))) (notFace_of_selects (args := #[]) (mvT hZ (hw _ (List.mem_of_getElem? (i := 27) rfl)))) (mvT hZ (hw _ (List.mem_of_getElem? (i := 27) rfl))) (mvT hZ (hw _ (List.mem_of_getElem? (i := 26) rfl))) (by decide) (backOf (W := 0) (A2 T9.heap b7 ka wa (own_ext KK9) (Nat.le_trans Z0 KK9.1) g_b7 gka gwa HS9) hZ (hw _ (List.mem_of_getElem? (i := 28) rfl)) (hw _ (List.mem_of_getElem? (i := 12) rfl)) (by decide) (by decide)) q10a q10c (g := (mkF m 206 #[.val (.int p1), .val (.int p2), .val (.long q3), .second, .val (.int p4), .val (.int p5), .val (.long q6), .second, .val (.int (own_irem (p1 &&& (2147483647 : Int32)) (429496729 : Int32))), .val (.int (own_irem (p2 &&& (2147483647 : Int32)) (5 : Int32))), .val (.long (own_lrem q3 (68719476736 : Int64))), .second, .val (.int va12), .val (.int va13), .val (.int va14), .val (.int va15), .val (.int va16), .val (.long vd17), .second, .val (.ref vk19), .val (.ref vk20), .val (.int va21), .val (.ref b7), .val (.int rr1), .unset, .unset, .unset, .unset] [(.long (own_lrem q3 (68719476736 : Int64))), (.ref vk19), (.int (own_irem (p1 &&& (2147483647 : Int32)) (429496729 : Int32))), (.ref b7)])) rfl (by rw [hml]; rfl) (Steps.refl _) (argsL := [(.int (own_irem (p1 &&& (2147483647 : Int32)) (429496729 : Int32))), (.ref vk19), (.long (own_lrem q3 (68719476736 : Int64)))]) (rest := []) (lenOf pd_0_2 rfl) rfl (by show 2 * 0 + _ ≤ _; exact Nat.le_of_eq rfl) (hb hby at_206) (fun _ _ => ⟨rfl, rfl, (by decide : 3 + 0 ≤ _), (by decide : 2051 + 0 ≤ _)⟩)
  dsimp only [Pt.U, Pt.locs, Pt.cells, Pt.slots] at X10 l10 y10 z10 st10 hQ10
  subst l10 y10 z10
  obtain ⟨rfl, N10q, K10, HS10⟩ := hQ10
  have KK10 : Keep h0 T10.heap [] := KK9.trans K10 (allS (Or.inr (Nat.le_trans E7.1 ska)) (allS (Or.inr (Nat.le_trans E7.1 swa)) (allS (Or.inr sz_b7) all0)))
  have N10 := Fr.app N9 N10q
  obtain ⟨cq11, kq11, q11a, q11b, q11c⟩ := isOf hZ rfl HS10.1
  obtain ⟨_, _, ⟨T11, L11, k11, n11⟩, -, X11, ⟨Lc11, hQ11, l11, y11, z11⟩, st11⟩ := X10.virtualBack hx (y := (⟨"com/example/crackline/crackline/SeenValues", "add", "(ILcom/example/crackline/crackline/PriceKind;J)Z"⟩ : MethodName)) (z := (⟨"com/example/crackline/crackline/SeenValues", "add", "(ILcom/example/crackline/crackline/PriceKind;J)Z"⟩ : MethodName)) hown (mvT hZ (hw _ (List.mem_of_getElem? (i := 24) rfl))) (mvT hZ (hw _ (List.mem_of_getElem? (i := 25) rfl))) (notFace_of_selects (args := #[]) (mvT hZ (hw _ (List.mem_of_getElem? (i := 27) rfl)))) (mvT hZ (hw _ (List.mem_of_getElem? (i := 27) rfl))) (mvT hZ (hw _ (List.mem_of_getElem? (i := 26) rfl))) (by decide) (backOf (W := 0) (A3 T10.heap b7 ka wa (own_ext KK10) (Nat.le_trans Z0 KK10.1) g_b7 gka gwa HS10) hZ (hw _ (List.mem_of_getElem? (i := 28) rfl)) (hw _ (List.mem_of_getElem? (i := 12) rfl)) (by decide) (by decide)) q11a q11c (g := (mkF m 219 #[.val (.int p1), .val (.int p2), .val (.long q3), .second, .val (.int p4), .val (.int p5), .val (.long q6), .second, .val (.int (own_irem (p1 &&& (2147483647 : Int32)) (429496729 : Int32))), .val (.int (own_irem (p2 &&& (2147483647 : Int32)) (5 : Int32))), .val (.long (own_lrem q3 (68719476736 : Int64))), .second, .val (.int va12), .val (.int va13), .val (.int va14), .val (.int va15), .val (.int va16), .val (.long vd17), .second, .val (.ref vk19), .val (.ref vk20), .val (.int va21), .val (.ref b7), .val (.int rr1), .val (.int rr2), .unset, .unset, .unset] [(.long vd17), (.ref vk20), (.int va15), (.ref b7)])) rfl (by rw [hml]; rfl) (Steps.refl _) (argsL := [(.int va15), (.ref vk20), (.long vd17)]) (rest := []) (lenOf pd_0_2 rfl) rfl (by show 2 * 0 + _ ≤ _; exact Nat.le_of_eq rfl) (hb hby at_219) (fun _ _ => ⟨rfl, rfl, (by decide : 3 + 0 ≤ _), (by decide : 2051 + 0 ≤ _)⟩)
  dsimp only [Pt.U, Pt.locs, Pt.cells, Pt.slots] at X11 l11 y11 z11 st11 hQ11
  subst l11 y11 z11
  obtain ⟨rfl, N11q, K11, HS11⟩ := hQ11
  have KK11 : Keep h0 T11.heap [] := KK10.trans K11 (allS (Or.inr (Nat.le_trans E7.1 ska)) (allS (Or.inr (Nat.le_trans E7.1 swa)) (allS (Or.inr sz_b7) all0)))
  have N11 := Fr.app N10 N11q
  obtain ⟨cq12, kq12, q12a, q12b, q12c⟩ := isOf hZ rfl HS11.1
  obtain ⟨_, _, ⟨T12, L12, k12, n12⟩, -, X12, ⟨Lc12, hQ12, l12, y12, z12⟩, st12⟩ := X11.virtualBack hx (y := (⟨"com/example/crackline/crackline/SeenValues", "add", "(ILcom/example/crackline/crackline/PriceKind;J)Z"⟩ : MethodName)) (z := (⟨"com/example/crackline/crackline/SeenValues", "add", "(ILcom/example/crackline/crackline/PriceKind;J)Z"⟩ : MethodName)) hown (mvT hZ (hw _ (List.mem_of_getElem? (i := 24) rfl))) (mvT hZ (hw _ (List.mem_of_getElem? (i := 25) rfl))) (notFace_of_selects (args := #[]) (mvT hZ (hw _ (List.mem_of_getElem? (i := 27) rfl)))) (mvT hZ (hw _ (List.mem_of_getElem? (i := 27) rfl))) (mvT hZ (hw _ (List.mem_of_getElem? (i := 26) rfl))) (by decide) (backOf (W := 0) (A4 T11.heap b7 ka wa (own_ext KK11) (Nat.le_trans Z0 KK11.1) g_b7 gka gwa HS11) hZ (hw _ (List.mem_of_getElem? (i := 28) rfl)) (hw _ (List.mem_of_getElem? (i := 12) rfl)) (by decide) (by decide)) q12a q12c (g := (mkF m 232 #[.val (.int p1), .val (.int p2), .val (.long q3), .second, .val (.int p4), .val (.int p5), .val (.long q6), .second, .val (.int (own_irem (p1 &&& (2147483647 : Int32)) (429496729 : Int32))), .val (.int (own_irem (p2 &&& (2147483647 : Int32)) (5 : Int32))), .val (.long (own_lrem q3 (68719476736 : Int64))), .second, .val (.int va12), .val (.int va13), .val (.int va14), .val (.int va15), .val (.int va16), .val (.long vd17), .second, .val (.ref vk19), .val (.ref vk20), .val (.int va21), .val (.ref b7), .val (.int rr1), .val (.int rr2), .val (.int rr3), .unset, .unset] [(.long vd17), (.ref vk20), (.int va15), (.ref b7)])) rfl (by rw [hml]; rfl) (Steps.refl _) (argsL := [(.int va15), (.ref vk20), (.long vd17)]) (rest := []) (lenOf pd_0_2 rfl) rfl (by show 2 * 0 + _ ≤ _; exact Nat.le_of_eq rfl) (hb hby at_232) (fun _ _ => ⟨rfl, rfl, (by decide : 3 + 0 ≤ _), (by decide : 2051 + 0 ≤ _)⟩)
  dsimp only [Pt.U, Pt.locs, Pt.cells, Pt.slots] at X12 l12 y12 z12 st12 hQ12
  subst l12 y12 z12
  obtain ⟨rfl, N12q, K12, HS12⟩ := hQ12
  have KK12 : Keep h0 T12.heap [] := KK11.trans K12 (allS (Or.inr (Nat.le_trans E7.1 ska)) (allS (Or.inr (Nat.le_trans E7.1 swa)) (allS (Or.inr sz_b7) all0)))
  have N12 := Fr.app N11 N12q
  obtain ⟨cq13, kq13, q13a, q13b, q13c⟩ := isOf hZ rfl HS12.1
  obtain ⟨_, _, ⟨T13, L13, k13, n13⟩, -, X13, ⟨Lc13, hQ13, l13, y13, z13⟩, st13⟩ := X12.virtualBack hx (y := (⟨"com/example/crackline/crackline/SeenValues", "add", "(ILcom/example/crackline/crackline/PriceKind;J)Z"⟩ : MethodName)) (z := (⟨"com/example/crackline/crackline/SeenValues", "add", "(ILcom/example/crackline/crackline/PriceKind;J)Z"⟩ : MethodName)) hown (mvT hZ (hw _ (List.mem_of_getElem? (i := 24) rfl))) (mvT hZ (hw _ (List.mem_of_getElem? (i := 25) rfl))) (notFace_of_selects (args := #[]) (mvT hZ (hw _ (List.mem_of_getElem? (i := 27) rfl)))) (mvT hZ (hw _ (List.mem_of_getElem? (i := 27) rfl))) (mvT hZ (hw _ (List.mem_of_getElem? (i := 26) rfl))) (by decide) (backOf (W := 0) (A5 T12.heap b7 ka wa (own_ext KK12) (Nat.le_trans Z0 KK12.1) g_b7 gka gwa HS12) hZ (hw _ (List.mem_of_getElem? (i := 28) rfl)) (hw _ (List.mem_of_getElem? (i := 12) rfl)) (by decide) (by decide)) q13a q13c (g := (mkF m 245 #[.val (.int p1), .val (.int p2), .val (.long q3), .second, .val (.int p4), .val (.int p5), .val (.long q6), .second, .val (.int (own_irem (p1 &&& (2147483647 : Int32)) (429496729 : Int32))), .val (.int (own_irem (p2 &&& (2147483647 : Int32)) (5 : Int32))), .val (.long (own_lrem q3 (68719476736 : Int64))), .second, .val (.int va12), .val (.int va13), .val (.int va14), .val (.int va15), .val (.int va16), .val (.long vd17), .second, .val (.ref vk19), .val (.ref vk20), .val (.int va21), .val (.ref b7), .val (.int rr1), .val (.int rr2), .val (.int rr3), .val (.int rr4), .unset] [(.long (own_lrem q3 (68719476736 : Int64))), (.ref vk19), (.int (own_irem (p1 &&& (2147483647 : Int32)) (429496729 : Int32))), (.ref b7)])) rfl (by rw [hml]; rfl) (Steps.refl _) (argsL := [(.int (own_irem (p1 &&& (2147483647 : Int32)) (429496729 : Int32))), (.ref vk19), (.long (own_lrem q3 (68719476736 : Int64)))]) (rest := []) (lenOf pd_0_2 rfl) rfl (by show 2 * 0 + _ ≤ _; exact Nat.le_of_eq rfl) (hb hby at_245) (fun _ _ => ⟨rfl, rfl, (by decide : 3 + 0 ≤ _), (by decide : 2051 + 0 ≤ _)⟩)
  dsimp only [Pt.U, Pt.locs, Pt.cells, Pt.slots] at X13 l13 y13 z13 st13 hQ13
  subst l13 y13 z13
  obtain ⟨rfl, N13q, K13, HS13⟩ := hQ13
  have KK13 : Keep h0 T13.heap [] := KK12.trans K13 (allS (Or.inr (Nat.le_trans E7.1 ska)) (allS (Or.inr (Nat.le_trans E7.1 swa)) (allS (Or.inr sz_b7) all0)))
  have N13 := Fr.app N12 N13q
  obtain ⟨TJ, XJ, eJ, kJ⟩ := own_p250 p1 p2 q3 p4 p5 q6 (own_irem (p1 &&& (2147483647 : Int32)) (429496729 : Int32)) (own_irem (p2 &&& (2147483647 : Int32)) (5 : Int32)) (own_lrem q3 (68719476736 : Int64)) va12 va13 va14 va15 va16 vd17 vk19 vk20 va21 b7 rr1 rr2 rr3 rr4 rr5 X13 hx hZ hw hby hml hown rfl hr1 hr2 hr3 hr4 hr5
  obtain ⟨fs, hr, hrun, hended, hW, hsame⟩ := XJ.leave (v := some (.int (1 : Int32))) (fun h => by rw [Bd.returns] at h; cases h)
  refine ⟨_, _, pre0 _ ?_, hrun, hended, _, _, rfl, ?_, ⟨_, rfl⟩, hW, hsame.mono (by decide) (by decide)⟩
  · refine kA _ ?_
    refine kB _ ?_
    refine kC _ ?_
    refine kD _ ?_
    refine kE _ ?_
    refine kF _ ?_
    show Steps p.tables e below (TF.setTop (mkF m 133 #[.val (.int p1), .val (.int p2), .val (.long q3), .second, .val (.int p4), .val (.int p5), .val (.long q6), .second, .val (.int (own_irem (p1 &&& (2147483647 : Int32)) (429496729 : Int32))), .val (.int (own_irem (p2 &&& (2147483647 : Int32)) (5 : Int32))), .val (.long (own_lrem q3 (68719476736 : Int64))), .second, .val (.int va12), .val (.int va13), .val (.int va14), .val (.int va15), .val (.int va16), .val (.long vd17), .second, .unset, .unset, .unset, .unset, .unset, .unset, .unset, .unset, .unset] [])) _
    refine XS.iload XF.here hx rfl (hb hby at_133) rfl ?_
    show Steps p.tables e below (TF.setTop (mkF m 135 #[.val (.int p1), .val (.int p2), .val (.long q3), .second, .val (.int p4), .val (.int p5), .val (.long q6), .second, .val (.int (own_irem (p1 &&& (2147483647 : Int32)) (429496729 : Int32))), .val (.int (own_irem (p2 &&& (2147483647 : Int32)) (5 : Int32))), .val (.long (own_lrem q3 (68719476736 : Int64))), .second, .val (.int va12), .val (.int va13), .val (.int va14), .val (.int va15), .val (.int va16), .val (.long vd17), .second, .unset, .unset, .unset, .unset, .unset, .unset, .unset, .unset, .unset] [(.int (own_irem (p2 &&& (2147483647 : Int32)) (5 : Int32)))])) _
    refine st7g _ ?_
    show Steps p.tables e below (T7g.setTop (mkF m 138 #[.val (.int p1), .val (.int p2), .val (.long q3), .second, .val (.int p4), .val (.int p5), .val (.long q6), .second, .val (.int (own_irem (p1 &&& (2147483647 : Int32)) (429496729 : Int32))), .val (.int (own_irem (p2 &&& (2147483647 : Int32)) (5 : Int32))), .val (.long (own_lrem q3 (68719476736 : Int64))), .second, .val (.int va12), .val (.int va13), .val (.int va14), .val (.int va15), .val (.int va16), .val (.long vd17), .second, .unset, .unset, .unset, .unset, .unset, .unset, .unset, .unset, .unset] [(.ref vk19)])) _
    refine XS.astore X7g.here hx rfl (hb hby at_138) rfl rfl (l' := #[.val (.int p1), .val (.int p2), .val (.long q3), .second, .val (.int p4), .val (.int p5), .val (.long q6), .second, .val (.int (own_irem (p1 &&& (2147483647 : Int32)) (429496729 : Int32))), .val (.int (own_irem (p2 &&& (2147483647 : Int32)) (5 : Int32))), .val (.long (own_lrem q3 (68719476736 : Int64))), .second, .val (.int va12), .val (.int va13), .val (.int va14), .val (.int va15), .val (.int va16), .val (.long vd17), .second, .val (.ref vk19), .unset, .unset, .unset, .unset, .unset, .unset, .unset, .unset]) rfl ?_
    show Steps p.tables e below (T7g.setTop (mkF m 140 #[.val (.int p1), .val (.int p2), .val (.long q3), .second, .val (.int p4), .val (.int p5), .val (.long q6), .second, .val (.int (own_irem (p1 &&& (2147483647 : Int32)) (429496729 : Int32))), .val (.int (own_irem (p2 &&& (2147483647 : Int32)) (5 : Int32))), .val (.long (own_lrem q3 (68719476736 : Int64))), .second, .val (.int va12), .val (.int va13), .val (.int va14), .val (.int va15), .val (.int va16), .val (.long vd17), .second, .val (.ref vk19), .unset, .unset, .unset, .unset, .unset, .unset, .unset, .unset] [])) _
    refine XS.iload X7g.here hx rfl (hb hby at_140) rfl ?_
    show Steps p.tables e below (T7g.setTop (mkF m 142 #[.val (.int p1), .val (.int p2), .val (.long q3), .second, .val (.int p4), .val (.int p5), .val (.long q6), .second, .val (.int (own_irem (p1 &&& (2147483647 : Int32)) (429496729 : Int32))), .val (.int (own_irem (p2 &&& (2147483647 : Int32)) (5 : Int32))), .val (.long (own_lrem q3 (68719476736 : Int64))), .second, .val (.int va12), .val (.int va13), .val (.int va14), .val (.int va15), .val (.int va16), .val (.long vd17), .second, .val (.ref vk19), .unset, .unset, .unset, .unset, .unset, .unset, .unset, .unset] [(.int va16)])) _
    refine st8g _ ?_
    show Steps p.tables e below (T8g.setTop (mkF m 145 #[.val (.int p1), .val (.int p2), .val (.long q3), .second, .val (.int p4), .val (.int p5), .val (.long q6), .second, .val (.int (own_irem (p1 &&& (2147483647 : Int32)) (429496729 : Int32))), .val (.int (own_irem (p2 &&& (2147483647 : Int32)) (5 : Int32))), .val (.long (own_lrem q3 (68719476736 : Int64))), .second, .val (.int va12), .val (.int va13), .val (.int va14), .val (.int va15), .val (.int va16), .val (.long vd17), .second, .val (.ref vk19), .unset, .unset, .unset, .unset, .unset, .unset, .unset, .unset] [(.ref vk20)])) _
    refine XS.astore X8g.here hx rfl (hb hby at_145) rfl rfl (l' := #[.val (.int p1), .val (.int p2), .val (.long q3), .second, .val (.int p4), .val (.int p5), .val (.long q6), .second, .val (.int (own_irem (p1 &&& (2147483647 : Int32)) (429496729 : Int32))), .val (.int (own_irem (p2 &&& (2147483647 : Int32)) (5 : Int32))), .val (.long (own_lrem q3 (68719476736 : Int64))), .second, .val (.int va12), .val (.int va13), .val (.int va14), .val (.int va15), .val (.int va16), .val (.long vd17), .second, .val (.ref vk19), .val (.ref vk20), .unset, .unset, .unset, .unset, .unset, .unset, .unset]) rfl ?_
    refine kH _ ?_
    show Steps p.tables e below (TH.setTop (mkF m 176 #[.val (.int p1), .val (.int p2), .val (.long q3), .second, .val (.int p4), .val (.int p5), .val (.long q6), .second, .val (.int (own_irem (p1 &&& (2147483647 : Int32)) (429496729 : Int32))), .val (.int (own_irem (p2 &&& (2147483647 : Int32)) (5 : Int32))), .val (.long (own_lrem q3 (68719476736 : Int64))), .second, .val (.int va12), .val (.int va13), .val (.int va14), .val (.int va15), .val (.int va16), .val (.long vd17), .second, .val (.ref vk19), .val (.ref vk20), .val (.int va21), .unset, .unset, .unset, .unset, .unset, .unset] [])) _
    refine st7 _ ?_
    show Steps p.tables e below (T7.setTop (mkF m 179 #[.val (.int p1), .val (.int p2), .val (.long q3), .second, .val (.int p4), .val (.int p5), .val (.long q6), .second, .val (.int (own_irem (p1 &&& (2147483647 : Int32)) (429496729 : Int32))), .val (.int (own_irem (p2 &&& (2147483647 : Int32)) (5 : Int32))), .val (.long (own_lrem q3 (68719476736 : Int64))), .second, .val (.int va12), .val (.int va13), .val (.int va14), .val (.int va15), .val (.int va16), .val (.long vd17), .second, .val (.ref vk19), .val (.ref vk20), .val (.int va21), .unset, .unset, .unset, .unset, .unset, .unset] [(.ref b7)])) _
    refine XS.dup X7.here hx rfl (hb hby at_179) rfl rfl ?_
    show Steps p.tables e below (T7.setTop (mkF m 180 #[.val (.int p1), .val (.int p2), .val (.long q3), .second, .val (.int p4), .val (.int p5), .val (.long q6), .second, .val (.int (own_irem (p1 &&& (2147483647 : Int32)) (429496729 : Int32))), .val (.int (own_irem (p2 &&& (2147483647 : Int32)) (5 : Int32))), .val (.long (own_lrem q3 (68719476736 : Int64))), .second, .val (.int va12), .val (.int va13), .val (.int va14), .val (.int va15), .val (.int va16), .val (.long vd17), .second, .val (.ref vk19), .val (.ref vk20), .val (.int va21), .unset, .unset, .unset, .unset, .unset, .unset] [(.ref b7), (.ref b7)])) _
    refine st8.trans ?_
    show Steps p.tables e below (T8.setTop (mkF m 183 #[.val (.int p1), .val (.int p2), .val (.long q3), .second, .val (.int p4), .val (.int p5), .val (.long q6), .second, .val (.int (own_irem (p1 &&& (2147483647 : Int32)) (429496729 : Int32))), .val (.int (own_irem (p2 &&& (2147483647 : Int32)) (5 : Int32))), .val (.long (own_lrem q3 (68719476736 : Int64))), .second, .val (.int va12), .val (.int va13), .val (.int va14), .val (.int va15), .val (.int va16), .val (.long vd17), .second, .val (.ref vk19), .val (.ref vk20), .val (.int va21), .unset, .unset, .unset, .unset, .unset, .unset] [(.ref b7)])) _
    refine XS.astore X8.here hx rfl (hb hby at_183) rfl rfl (l' := #[.val (.int p1), .val (.int p2), .val (.long q3), .second, .val (.int p4), .val (.int p5), .val (.long q6), .second, .val (.int (own_irem (p1 &&& (2147483647 : Int32)) (429496729 : Int32))), .val (.int (own_irem (p2 &&& (2147483647 : Int32)) (5 : Int32))), .val (.long (own_lrem q3 (68719476736 : Int64))), .second, .val (.int va12), .val (.int va13), .val (.int va14), .val (.int va15), .val (.int va16), .val (.long vd17), .second, .val (.ref vk19), .val (.ref vk20), .val (.int va21), .val (.ref b7), .unset, .unset, .unset, .unset, .unset]) rfl ?_
    show Steps p.tables e below (T8.setTop (mkF m 185 #[.val (.int p1), .val (.int p2), .val (.long q3), .second, .val (.int p4), .val (.int p5), .val (.long q6), .second, .val (.int (own_irem (p1 &&& (2147483647 : Int32)) (429496729 : Int32))), .val (.int (own_irem (p2 &&& (2147483647 : Int32)) (5 : Int32))), .val (.long (own_lrem q3 (68719476736 : Int64))), .second, .val (.int va12), .val (.int va13), .val (.int va14), .val (.int va15), .val (.int va16), .val (.long vd17), .second, .val (.ref vk19), .val (.ref vk20), .val (.int va21), .val (.ref b7), .unset, .unset, .unset, .unset, .unset] [])) _
    refine XS.aload X8.here hx rfl (hb hby at_185) rfl rfl ?_
    show Steps p.tables e below (T8.setTop (mkF m 187 #[.val (.int p1), .val (.int p2), .val (.long q3), .second, .val (.int p4), .val (.int p5), .val (.long q6), .second, .val (.int (own_irem (p1 &&& (2147483647 : Int32)) (429496729 : Int32))), .val (.int (own_irem (p2 &&& (2147483647 : Int32)) (5 : Int32))), .val (.long (own_lrem q3 (68719476736 : Int64))), .second, .val (.int va12), .val (.int va13), .val (.int va14), .val (.int va15), .val (.int va16), .val (.long vd17), .second, .val (.ref vk19), .val (.ref vk20), .val (.int va21), .val (.ref b7), .unset, .unset, .unset, .unset, .unset] [(.ref b7)])) _
    refine XS.iload X8.here hx rfl (hb hby at_187) rfl ?_
    show Steps p.tables e below (T8.setTop (mkF m 189 #[.val (.int p1), .val (.int p2), .val (.long q3), .second, .val (.int p4), .val (.int p5), .val (.long q6), .second, .val (.int (own_irem (p1 &&& (2147483647 : Int32)) (429496729 : Int32))), .val (.int (own_irem (p2 &&& (2147483647 : Int32)) (5 : Int32))), .val (.long (own_lrem q3 (68719476736 : Int64))), .second, .val (.int va12), .val (.int va13), .val (.int va14), .val (.int va15), .val (.int va16), .val (.long vd17), .second, .val (.ref vk19), .val (.ref vk20), .val (.int va21), .val (.ref b7), .unset, .unset, .unset, .unset, .unset] [(.int (own_irem (p1 &&& (2147483647 : Int32)) (429496729 : Int32))), (.ref b7)])) _
    refine XS.aload X8.here hx rfl (hb hby at_189) rfl rfl ?_
    show Steps p.tables e below (T8.setTop (mkF m 191 #[.val (.int p1), .val (.int p2), .val (.long q3), .second, .val (.int p4), .val (.int p5), .val (.long q6), .second, .val (.int (own_irem (p1 &&& (2147483647 : Int32)) (429496729 : Int32))), .val (.int (own_irem (p2 &&& (2147483647 : Int32)) (5 : Int32))), .val (.long (own_lrem q3 (68719476736 : Int64))), .second, .val (.int va12), .val (.int va13), .val (.int va14), .val (.int va15), .val (.int va16), .val (.long vd17), .second, .val (.ref vk19), .val (.ref vk20), .val (.int va21), .val (.ref b7), .unset, .unset, .unset, .unset, .unset] [(.ref vk19), (.int (own_irem (p1 &&& (2147483647 : Int32)) (429496729 : Int32))), (.ref b7)])) _
    refine XS.lload X8.here hx rfl (hb hby at_191) rfl ?_
    show Steps p.tables e below (T8.setTop (mkF m 193 #[.val (.int p1), .val (.int p2), .val (.long q3), .second, .val (.int p4), .val (.int p5), .val (.long q6), .second, .val (.int (own_irem (p1 &&& (2147483647 : Int32)) (429496729 : Int32))), .val (.int (own_irem (p2 &&& (2147483647 : Int32)) (5 : Int32))), .val (.long (own_lrem q3 (68719476736 : Int64))), .second, .val (.int va12), .val (.int va13), .val (.int va14), .val (.int va15), .val (.int va16), .val (.long vd17), .second, .val (.ref vk19), .val (.ref vk20), .val (.int va21), .val (.ref b7), .unset, .unset, .unset, .unset, .unset] [(.long (own_lrem q3 (68719476736 : Int64))), (.ref vk19), (.int (own_irem (p1 &&& (2147483647 : Int32)) (429496729 : Int32))), (.ref b7)])) _
    refine st9.trans ?_
    show Steps p.tables e below (T9.setTop (mkF m 196 #[.val (.int p1), .val (.int p2), .val (.long q3), .second, .val (.int p4), .val (.int p5), .val (.long q6), .second, .val (.int (own_irem (p1 &&& (2147483647 : Int32)) (429496729 : Int32))), .val (.int (own_irem (p2 &&& (2147483647 : Int32)) (5 : Int32))), .val (.long (own_lrem q3 (68719476736 : Int64))), .second, .val (.int va12), .val (.int va13), .val (.int va14), .val (.int va15), .val (.int va16), .val (.long vd17), .second, .val (.ref vk19), .val (.ref vk20), .val (.int va21), .val (.ref b7), .unset, .unset, .unset, .unset, .unset] [(.int rr1)])) _
    refine XS.istore X9.here hx rfl (hb hby at_196) rfl (l' := #[.val (.int p1), .val (.int p2), .val (.long q3), .second, .val (.int p4), .val (.int p5), .val (.long q6), .second, .val (.int (own_irem (p1 &&& (2147483647 : Int32)) (429496729 : Int32))), .val (.int (own_irem (p2 &&& (2147483647 : Int32)) (5 : Int32))), .val (.long (own_lrem q3 (68719476736 : Int64))), .second, .val (.int va12), .val (.int va13), .val (.int va14), .val (.int va15), .val (.int va16), .val (.long vd17), .second, .val (.ref vk19), .val (.ref vk20), .val (.int va21), .val (.ref b7), .val (.int rr1), .unset, .unset, .unset, .unset]) rfl ?_
    show Steps p.tables e below (T9.setTop (mkF m 198 #[.val (.int p1), .val (.int p2), .val (.long q3), .second, .val (.int p4), .val (.int p5), .val (.long q6), .second, .val (.int (own_irem (p1 &&& (2147483647 : Int32)) (429496729 : Int32))), .val (.int (own_irem (p2 &&& (2147483647 : Int32)) (5 : Int32))), .val (.long (own_lrem q3 (68719476736 : Int64))), .second, .val (.int va12), .val (.int va13), .val (.int va14), .val (.int va15), .val (.int va16), .val (.long vd17), .second, .val (.ref vk19), .val (.ref vk20), .val (.int va21), .val (.ref b7), .val (.int rr1), .unset, .unset, .unset, .unset] [])) _
    refine XS.aload X9.here hx rfl (hb hby at_198) rfl rfl ?_
    show Steps p.tables e below (T9.setTop (mkF m 200 #[.val (.int p1), .val (.int p2), .val (.long q3), .second, .val (.int p4), .val (.int p5), .val (.long q6), .second, .val (.int (own_irem (p1 &&& (2147483647 : Int32)) (429496729 : Int32))), .val (.int (own_irem (p2 &&& (2147483647 : Int32)) (5 : Int32))), .val (.long (own_lrem q3 (68719476736 : Int64))), .second, .val (.int va12), .val (.int va13), .val (.int va14), .val (.int va15), .val (.int va16), .val (.long vd17), .second, .val (.ref vk19), .val (.ref vk20), .val (.int va21), .val (.ref b7), .val (.int rr1), .unset, .unset, .unset, .unset] [(.ref b7)])) _
    refine XS.iload X9.here hx rfl (hb hby at_200) rfl ?_
    show Steps p.tables e below (T9.setTop (mkF m 202 #[.val (.int p1), .val (.int p2), .val (.long q3), .second, .val (.int p4), .val (.int p5), .val (.long q6), .second, .val (.int (own_irem (p1 &&& (2147483647 : Int32)) (429496729 : Int32))), .val (.int (own_irem (p2 &&& (2147483647 : Int32)) (5 : Int32))), .val (.long (own_lrem q3 (68719476736 : Int64))), .second, .val (.int va12), .val (.int va13), .val (.int va14), .val (.int va15), .val (.int va16), .val (.long vd17), .second, .val (.ref vk19), .val (.ref vk20), .val (.int va21), .val (.ref b7), .val (.int rr1), .unset, .unset, .unset, .unset] [(.int (own_irem (p1 &&& (2147483647 : Int32)) (429496729 : Int32))), (.ref b7)])) _
    refine XS.aload X9.here hx rfl (hb hby at_202) rfl rfl ?_
    show Steps p.tables e below (T9.setTop (mkF m 204 #[.val (.int p1), .val (.int p2), .val (.long q3), .second, .val (.int p4), .val (.int p5), .val (.long q6), .second, .val (.int (own_irem (p1 &&& (2147483647 : Int32)) (429496729 : Int32))), .val (.int (own_irem (p2 &&& (2147483647 : Int32)) (5 : Int32))), .val (.long (own_lrem q3 (68719476736 : Int64))), .second, .val (.int va12), .val (.int va13), .val (.int va14), .val (.int va15), .val (.int va16), .val (.long vd17), .second, .val (.ref vk19), .val (.ref vk20), .val (.int va21), .val (.ref b7), .val (.int rr1), .unset, .unset, .unset, .unset] [(.ref vk19), (.int (own_irem (p1 &&& (2147483647 : Int32)) (429496729 : Int32))), (.ref b7)])) _
    refine XS.lload X9.here hx rfl (hb hby at_204) rfl ?_
    show Steps p.tables e below (T9.setTop (mkF m 206 #[.val (.int p1), .val (.int p2), .val (.long q3), .second, .val (.int p4), .val (.int p5), .val (.long q6), .second, .val (.int (own_irem (p1 &&& (2147483647 : Int32)) (429496729 : Int32))), .val (.int (own_irem (p2 &&& (2147483647 : Int32)) (5 : Int32))), .val (.long (own_lrem q3 (68719476736 : Int64))), .second, .val (.int va12), .val (.int va13), .val (.int va14), .val (.int va15), .val (.int va16), .val (.long vd17), .second, .val (.ref vk19), .val (.ref vk20), .val (.int va21), .val (.ref b7), .val (.int rr1), .unset, .unset, .unset, .unset] [(.long (own_lrem q3 (68719476736 : Int64))), (.ref vk19), (.int (own_irem (p1 &&& (2147483647 : Int32)) (429496729 : Int32))), (.ref b7)])) _
    refine st10.trans ?_
    show Steps p.tables e below (T10.setTop (mkF m 209 #[.val (.int p1), .val (.int p2), .val (.long q3), .second, .val (.int p4), .val (.int p5), .val (.long q6), .second, .val (.int (own_irem (p1 &&& (2147483647 : Int32)) (429496729 : Int32))), .val (.int (own_irem (p2 &&& (2147483647 : Int32)) (5 : Int32))), .val (.long (own_lrem q3 (68719476736 : Int64))), .second, .val (.int va12), .val (.int va13), .val (.int va14), .val (.int va15), .val (.int va16), .val (.long vd17), .second, .val (.ref vk19), .val (.ref vk20), .val (.int va21), .val (.ref b7), .val (.int rr1), .unset, .unset, .unset, .unset] [(.int rr2)])) _
    refine XS.istore X10.here hx rfl (hb hby at_209) rfl (l' := #[.val (.int p1), .val (.int p2), .val (.long q3), .second, .val (.int p4), .val (.int p5), .val (.long q6), .second, .val (.int (own_irem (p1 &&& (2147483647 : Int32)) (429496729 : Int32))), .val (.int (own_irem (p2 &&& (2147483647 : Int32)) (5 : Int32))), .val (.long (own_lrem q3 (68719476736 : Int64))), .second, .val (.int va12), .val (.int va13), .val (.int va14), .val (.int va15), .val (.int va16), .val (.long vd17), .second, .val (.ref vk19), .val (.ref vk20), .val (.int va21), .val (.ref b7), .val (.int rr1), .val (.int rr2), .unset, .unset, .unset]) rfl ?_
    show Steps p.tables e below (T10.setTop (mkF m 211 #[.val (.int p1), .val (.int p2), .val (.long q3), .second, .val (.int p4), .val (.int p5), .val (.long q6), .second, .val (.int (own_irem (p1 &&& (2147483647 : Int32)) (429496729 : Int32))), .val (.int (own_irem (p2 &&& (2147483647 : Int32)) (5 : Int32))), .val (.long (own_lrem q3 (68719476736 : Int64))), .second, .val (.int va12), .val (.int va13), .val (.int va14), .val (.int va15), .val (.int va16), .val (.long vd17), .second, .val (.ref vk19), .val (.ref vk20), .val (.int va21), .val (.ref b7), .val (.int rr1), .val (.int rr2), .unset, .unset, .unset] [])) _
    refine XS.aload X10.here hx rfl (hb hby at_211) rfl rfl ?_
    show Steps p.tables e below (T10.setTop (mkF m 213 #[.val (.int p1), .val (.int p2), .val (.long q3), .second, .val (.int p4), .val (.int p5), .val (.long q6), .second, .val (.int (own_irem (p1 &&& (2147483647 : Int32)) (429496729 : Int32))), .val (.int (own_irem (p2 &&& (2147483647 : Int32)) (5 : Int32))), .val (.long (own_lrem q3 (68719476736 : Int64))), .second, .val (.int va12), .val (.int va13), .val (.int va14), .val (.int va15), .val (.int va16), .val (.long vd17), .second, .val (.ref vk19), .val (.ref vk20), .val (.int va21), .val (.ref b7), .val (.int rr1), .val (.int rr2), .unset, .unset, .unset] [(.ref b7)])) _
    refine XS.iload X10.here hx rfl (hb hby at_213) rfl ?_
    show Steps p.tables e below (T10.setTop (mkF m 215 #[.val (.int p1), .val (.int p2), .val (.long q3), .second, .val (.int p4), .val (.int p5), .val (.long q6), .second, .val (.int (own_irem (p1 &&& (2147483647 : Int32)) (429496729 : Int32))), .val (.int (own_irem (p2 &&& (2147483647 : Int32)) (5 : Int32))), .val (.long (own_lrem q3 (68719476736 : Int64))), .second, .val (.int va12), .val (.int va13), .val (.int va14), .val (.int va15), .val (.int va16), .val (.long vd17), .second, .val (.ref vk19), .val (.ref vk20), .val (.int va21), .val (.ref b7), .val (.int rr1), .val (.int rr2), .unset, .unset, .unset] [(.int va15), (.ref b7)])) _
    refine XS.aload X10.here hx rfl (hb hby at_215) rfl rfl ?_
    show Steps p.tables e below (T10.setTop (mkF m 217 #[.val (.int p1), .val (.int p2), .val (.long q3), .second, .val (.int p4), .val (.int p5), .val (.long q6), .second, .val (.int (own_irem (p1 &&& (2147483647 : Int32)) (429496729 : Int32))), .val (.int (own_irem (p2 &&& (2147483647 : Int32)) (5 : Int32))), .val (.long (own_lrem q3 (68719476736 : Int64))), .second, .val (.int va12), .val (.int va13), .val (.int va14), .val (.int va15), .val (.int va16), .val (.long vd17), .second, .val (.ref vk19), .val (.ref vk20), .val (.int va21), .val (.ref b7), .val (.int rr1), .val (.int rr2), .unset, .unset, .unset] [(.ref vk20), (.int va15), (.ref b7)])) _
    refine XS.lload X10.here hx rfl (hb hby at_217) rfl ?_
    show Steps p.tables e below (T10.setTop (mkF m 219 #[.val (.int p1), .val (.int p2), .val (.long q3), .second, .val (.int p4), .val (.int p5), .val (.long q6), .second, .val (.int (own_irem (p1 &&& (2147483647 : Int32)) (429496729 : Int32))), .val (.int (own_irem (p2 &&& (2147483647 : Int32)) (5 : Int32))), .val (.long (own_lrem q3 (68719476736 : Int64))), .second, .val (.int va12), .val (.int va13), .val (.int va14), .val (.int va15), .val (.int va16), .val (.long vd17), .second, .val (.ref vk19), .val (.ref vk20), .val (.int va21), .val (.ref b7), .val (.int rr1), .val (.int rr2), .unset, .unset, .unset] [(.long vd17), (.ref vk20), (.int va15), (.ref b7)])) _
    refine st11.trans ?_
    show Steps p.tables e below (T11.setTop (mkF m 222 #[.val (.int p1), .val (.int p2), .val (.long q3), .second, .val (.int p4), .val (.int p5), .val (.long q6), .second, .val (.int (own_irem (p1 &&& (2147483647 : Int32)) (429496729 : Int32))), .val (.int (own_irem (p2 &&& (2147483647 : Int32)) (5 : Int32))), .val (.long (own_lrem q3 (68719476736 : Int64))), .second, .val (.int va12), .val (.int va13), .val (.int va14), .val (.int va15), .val (.int va16), .val (.long vd17), .second, .val (.ref vk19), .val (.ref vk20), .val (.int va21), .val (.ref b7), .val (.int rr1), .val (.int rr2), .unset, .unset, .unset] [(.int rr3)])) _
    refine XS.istore X11.here hx rfl (hb hby at_222) rfl (l' := #[.val (.int p1), .val (.int p2), .val (.long q3), .second, .val (.int p4), .val (.int p5), .val (.long q6), .second, .val (.int (own_irem (p1 &&& (2147483647 : Int32)) (429496729 : Int32))), .val (.int (own_irem (p2 &&& (2147483647 : Int32)) (5 : Int32))), .val (.long (own_lrem q3 (68719476736 : Int64))), .second, .val (.int va12), .val (.int va13), .val (.int va14), .val (.int va15), .val (.int va16), .val (.long vd17), .second, .val (.ref vk19), .val (.ref vk20), .val (.int va21), .val (.ref b7), .val (.int rr1), .val (.int rr2), .val (.int rr3), .unset, .unset]) rfl ?_
    show Steps p.tables e below (T11.setTop (mkF m 224 #[.val (.int p1), .val (.int p2), .val (.long q3), .second, .val (.int p4), .val (.int p5), .val (.long q6), .second, .val (.int (own_irem (p1 &&& (2147483647 : Int32)) (429496729 : Int32))), .val (.int (own_irem (p2 &&& (2147483647 : Int32)) (5 : Int32))), .val (.long (own_lrem q3 (68719476736 : Int64))), .second, .val (.int va12), .val (.int va13), .val (.int va14), .val (.int va15), .val (.int va16), .val (.long vd17), .second, .val (.ref vk19), .val (.ref vk20), .val (.int va21), .val (.ref b7), .val (.int rr1), .val (.int rr2), .val (.int rr3), .unset, .unset] [])) _
    refine XS.aload X11.here hx rfl (hb hby at_224) rfl rfl ?_
    show Steps p.tables e below (T11.setTop (mkF m 226 #[.val (.int p1), .val (.int p2), .val (.long q3), .second, .val (.int p4), .val (.int p5), .val (.long q6), .second, .val (.int (own_irem (p1 &&& (2147483647 : Int32)) (429496729 : Int32))), .val (.int (own_irem (p2 &&& (2147483647 : Int32)) (5 : Int32))), .val (.long (own_lrem q3 (68719476736 : Int64))), .second, .val (.int va12), .val (.int va13), .val (.int va14), .val (.int va15), .val (.int va16), .val (.long vd17), .second, .val (.ref vk19), .val (.ref vk20), .val (.int va21), .val (.ref b7), .val (.int rr1), .val (.int rr2), .val (.int rr3), .unset, .unset] [(.ref b7)])) _
    refine XS.iload X11.here hx rfl (hb hby at_226) rfl ?_
    show Steps p.tables e below (T11.setTop (mkF m 228 #[.val (.int p1), .val (.int p2), .val (.long q3), .second, .val (.int p4), .val (.int p5), .val (.long q6), .second, .val (.int (own_irem (p1 &&& (2147483647 : Int32)) (429496729 : Int32))), .val (.int (own_irem (p2 &&& (2147483647 : Int32)) (5 : Int32))), .val (.long (own_lrem q3 (68719476736 : Int64))), .second, .val (.int va12), .val (.int va13), .val (.int va14), .val (.int va15), .val (.int va16), .val (.long vd17), .second, .val (.ref vk19), .val (.ref vk20), .val (.int va21), .val (.ref b7), .val (.int rr1), .val (.int rr2), .val (.int rr3), .unset, .unset] [(.int va15), (.ref b7)])) _
    refine XS.aload X11.here hx rfl (hb hby at_228) rfl rfl ?_
    show Steps p.tables e below (T11.setTop (mkF m 230 #[.val (.int p1), .val (.int p2), .val (.long q3), .second, .val (.int p4), .val (.int p5), .val (.long q6), .second, .val (.int (own_irem (p1 &&& (2147483647 : Int32)) (429496729 : Int32))), .val (.int (own_irem (p2 &&& (2147483647 : Int32)) (5 : Int32))), .val (.long (own_lrem q3 (68719476736 : Int64))), .second, .val (.int va12), .val (.int va13), .val (.int va14), .val (.int va15), .val (.int va16), .val (.long vd17), .second, .val (.ref vk19), .val (.ref vk20), .val (.int va21), .val (.ref b7), .val (.int rr1), .val (.int rr2), .val (.int rr3), .unset, .unset] [(.ref vk20), (.int va15), (.ref b7)])) _
    refine XS.lload X11.here hx rfl (hb hby at_230) rfl ?_
    show Steps p.tables e below (T11.setTop (mkF m 232 #[.val (.int p1), .val (.int p2), .val (.long q3), .second, .val (.int p4), .val (.int p5), .val (.long q6), .second, .val (.int (own_irem (p1 &&& (2147483647 : Int32)) (429496729 : Int32))), .val (.int (own_irem (p2 &&& (2147483647 : Int32)) (5 : Int32))), .val (.long (own_lrem q3 (68719476736 : Int64))), .second, .val (.int va12), .val (.int va13), .val (.int va14), .val (.int va15), .val (.int va16), .val (.long vd17), .second, .val (.ref vk19), .val (.ref vk20), .val (.int va21), .val (.ref b7), .val (.int rr1), .val (.int rr2), .val (.int rr3), .unset, .unset] [(.long vd17), (.ref vk20), (.int va15), (.ref b7)])) _
    refine st12.trans ?_
    show Steps p.tables e below (T12.setTop (mkF m 235 #[.val (.int p1), .val (.int p2), .val (.long q3), .second, .val (.int p4), .val (.int p5), .val (.long q6), .second, .val (.int (own_irem (p1 &&& (2147483647 : Int32)) (429496729 : Int32))), .val (.int (own_irem (p2 &&& (2147483647 : Int32)) (5 : Int32))), .val (.long (own_lrem q3 (68719476736 : Int64))), .second, .val (.int va12), .val (.int va13), .val (.int va14), .val (.int va15), .val (.int va16), .val (.long vd17), .second, .val (.ref vk19), .val (.ref vk20), .val (.int va21), .val (.ref b7), .val (.int rr1), .val (.int rr2), .val (.int rr3), .unset, .unset] [(.int rr4)])) _
    refine XS.istore X12.here hx rfl (hb hby at_235) rfl (l' := #[.val (.int p1), .val (.int p2), .val (.long q3), .second, .val (.int p4), .val (.int p5), .val (.long q6), .second, .val (.int (own_irem (p1 &&& (2147483647 : Int32)) (429496729 : Int32))), .val (.int (own_irem (p2 &&& (2147483647 : Int32)) (5 : Int32))), .val (.long (own_lrem q3 (68719476736 : Int64))), .second, .val (.int va12), .val (.int va13), .val (.int va14), .val (.int va15), .val (.int va16), .val (.long vd17), .second, .val (.ref vk19), .val (.ref vk20), .val (.int va21), .val (.ref b7), .val (.int rr1), .val (.int rr2), .val (.int rr3), .val (.int rr4), .unset]) rfl ?_
    show Steps p.tables e below (T12.setTop (mkF m 237 #[.val (.int p1), .val (.int p2), .val (.long q3), .second, .val (.int p4), .val (.int p5), .val (.long q6), .second, .val (.int (own_irem (p1 &&& (2147483647 : Int32)) (429496729 : Int32))), .val (.int (own_irem (p2 &&& (2147483647 : Int32)) (5 : Int32))), .val (.long (own_lrem q3 (68719476736 : Int64))), .second, .val (.int va12), .val (.int va13), .val (.int va14), .val (.int va15), .val (.int va16), .val (.long vd17), .second, .val (.ref vk19), .val (.ref vk20), .val (.int va21), .val (.ref b7), .val (.int rr1), .val (.int rr2), .val (.int rr3), .val (.int rr4), .unset] [])) _
    refine XS.aload X12.here hx rfl (hb hby at_237) rfl rfl ?_
    show Steps p.tables e below (T12.setTop (mkF m 239 #[.val (.int p1), .val (.int p2), .val (.long q3), .second, .val (.int p4), .val (.int p5), .val (.long q6), .second, .val (.int (own_irem (p1 &&& (2147483647 : Int32)) (429496729 : Int32))), .val (.int (own_irem (p2 &&& (2147483647 : Int32)) (5 : Int32))), .val (.long (own_lrem q3 (68719476736 : Int64))), .second, .val (.int va12), .val (.int va13), .val (.int va14), .val (.int va15), .val (.int va16), .val (.long vd17), .second, .val (.ref vk19), .val (.ref vk20), .val (.int va21), .val (.ref b7), .val (.int rr1), .val (.int rr2), .val (.int rr3), .val (.int rr4), .unset] [(.ref b7)])) _
    refine XS.iload X12.here hx rfl (hb hby at_239) rfl ?_
    show Steps p.tables e below (T12.setTop (mkF m 241 #[.val (.int p1), .val (.int p2), .val (.long q3), .second, .val (.int p4), .val (.int p5), .val (.long q6), .second, .val (.int (own_irem (p1 &&& (2147483647 : Int32)) (429496729 : Int32))), .val (.int (own_irem (p2 &&& (2147483647 : Int32)) (5 : Int32))), .val (.long (own_lrem q3 (68719476736 : Int64))), .second, .val (.int va12), .val (.int va13), .val (.int va14), .val (.int va15), .val (.int va16), .val (.long vd17), .second, .val (.ref vk19), .val (.ref vk20), .val (.int va21), .val (.ref b7), .val (.int rr1), .val (.int rr2), .val (.int rr3), .val (.int rr4), .unset] [(.int (own_irem (p1 &&& (2147483647 : Int32)) (429496729 : Int32))), (.ref b7)])) _
    refine XS.aload X12.here hx rfl (hb hby at_241) rfl rfl ?_
    show Steps p.tables e below (T12.setTop (mkF m 243 #[.val (.int p1), .val (.int p2), .val (.long q3), .second, .val (.int p4), .val (.int p5), .val (.long q6), .second, .val (.int (own_irem (p1 &&& (2147483647 : Int32)) (429496729 : Int32))), .val (.int (own_irem (p2 &&& (2147483647 : Int32)) (5 : Int32))), .val (.long (own_lrem q3 (68719476736 : Int64))), .second, .val (.int va12), .val (.int va13), .val (.int va14), .val (.int va15), .val (.int va16), .val (.long vd17), .second, .val (.ref vk19), .val (.ref vk20), .val (.int va21), .val (.ref b7), .val (.int rr1), .val (.int rr2), .val (.int rr3), .val (.int rr4), .unset] [(.ref vk19), (.int (own_irem (p1 &&& (2147483647 : Int32)) (429496729 : Int32))), (.ref b7)])) _
    refine XS.lload X12.here hx rfl (hb hby at_243) rfl ?_
    show Steps p.tables e below (T12.setTop (mkF m 245 #[.val (.int p1), .val (.int p2), .val (.long q3), .second, .val (.int p4), .val (.int p5), .val (.long q6), .second, .val (.int (own_irem (p1 &&& (2147483647 : Int32)) (429496729 : Int32))), .val (.int (own_irem (p2 &&& (2147483647 : Int32)) (5 : Int32))), .val (.long (own_lrem q3 (68719476736 : Int64))), .second, .val (.int va12), .val (.int va13), .val (.int va14), .val (.int va15), .val (.int va16), .val (.long vd17), .second, .val (.ref vk19), .val (.ref vk20), .val (.int va21), .val (.ref b7), .val (.int rr1), .val (.int rr2), .val (.int rr3), .val (.int rr4), .unset] [(.long (own_lrem q3 (68719476736 : Int64))), (.ref vk19), (.int (own_irem (p1 &&& (2147483647 : Int32)) (429496729 : Int32))), (.ref b7)])) _
    refine st13.trans ?_
    show Steps p.tables e below (T13.setTop (mkF m 248 #[.val (.int p1), .val (.int p2), .val (.long q3), .second, .val (.int p4), .val (.int p5), .val (.long q6), .second, .val (.int (own_irem (p1 &&& (2147483647 : Int32)) (429496729 : Int32))), .val (.int (own_irem (p2 &&& (2147483647 : Int32)) (5 : Int32))), .val (.long (own_lrem q3 (68719476736 : Int64))), .second, .val (.int va12), .val (.int va13), .val (.int va14), .val (.int va15), .val (.int va16), .val (.long vd17), .second, .val (.ref vk19), .val (.ref vk20), .val (.int va21), .val (.ref b7), .val (.int rr1), .val (.int rr2), .val (.int rr3), .val (.int rr4), .unset] [(.int rr5)])) _
    refine XS.istore X13.here hx rfl (hb hby at_248) rfl (l' := #[.val (.int p1), .val (.int p2), .val (.long q3), .second, .val (.int p4), .val (.int p5), .val (.long q6), .second, .val (.int (own_irem (p1 &&& (2147483647 : Int32)) (429496729 : Int32))), .val (.int (own_irem (p2 &&& (2147483647 : Int32)) (5 : Int32))), .val (.long (own_lrem q3 (68719476736 : Int64))), .second, .val (.int va12), .val (.int va13), .val (.int va14), .val (.int va15), .val (.int va16), .val (.long vd17), .second, .val (.ref vk19), .val (.ref vk20), .val (.int va21), .val (.ref b7), .val (.int rr1), .val (.int rr2), .val (.int rr3), .val (.int rr4), .val (.int rr5)]) rfl ?_
    refine kJ _ ?_
    exact retN XJ hx (t := .boolean) Bd.returns (by simp) (hb hby at_290) hr
  · exact ⟨rfl, N13⟩
theorem own_add (l : Launch) (Z : State) (a0 : Array Value) (hw : ∀ d ∈ tables_1, d.before a0 Z = true) (v ka wa : Addr) (s : Int32) (k : Addr) (o : Int32) (d : Int64) (n : Int32) (f g : Nat → Int64) (r : Int32) (f2 g2 : Nat → Int64) (n2 : Int32) (h0 : Heap) (n0 : Nat) (Z0 : n0 ≤ h0.size) (S_KINDS : Sta Z h0 "com/example/crackline/crackline/SeenValues" "KINDS" "I" (.int (5 : Int32))) (E_k : Exa Z h0 k "com/example/crackline/crackline/PriceKind") (F_k : Fld Z h0 k "java/lang/Enum" "ordinal" "I" (.int o)) (hs : 0 ≤ s.toInt ∧ s.toInt < 429496729) (ho : 0 ≤ o.toInt ∧ o.toInt < 5) (hd : own_day d) (HS : own_S Z h0 v ka wa f g n) (gv : n0 ≤ v) (gk : n0 ≤ ka) (gw : n0 ≤ wa) (H : own_step f g n (own_K s o d) (own_B d) r f2 g2 n2) : own_MA l Z [] v ka wa s k d h0 n0 r f2 g2 n2 := by
  obtain ⟨i, hi, ⟨rfl, q1, q2, rfl, rfl, rfl⟩ | ⟨rfl, q1, q2, rfl, rfl, rfl⟩ | ⟨rfl, q1, q2, rfl, rfl, rfl⟩⟩ := H
  · exact own_addNew l Z a0 hw v ka wa s k o d n f g h0 n0 Z0 S_KINDS E_k F_k hs ho hd HS gv gk gw i hi q1 q2
  · exact own_addOld l Z a0 hw v ka wa s k o d _ _ g h0 n0 Z0 S_KINDS E_k F_k hs ho hd HS gv gk gw i hi q1 q2
  · exact own_addBit l Z a0 hw v ka wa s k o d _ _ g h0 n0 Z0 S_KINDS E_k F_k hs ho hd HS gv gk gw i hi q1 q2
theorem own_law (l : Launch) (Z : State) (a0 : Array Value) (hw : ∀ d ∈ tables_1, d.before a0 Z = true) (ws : List Jvm.Cond) (p1 : Int32) (p2 : Int32) (q3 : Int64) (p4 : Int32) (p5 : Int32) (q6 : Int64) (h0 : Heap) (n0 : Nat) (Z0 : n0 ≤ h0.size) (HK : ∀ i : Int32, 0 ≤ i.toInt ∧ i.toInt < 5 → ∃ w : Addr, M1 l Z [] i h0 n0 (some (.ref w)) ∧ Exa Z h0 w "com/example/crackline/crackline/PriceKind" ∧ Fld Z h0 w "java/lang/Enum" "ordinal" "I" (.int i)) (S_KINDS : Sta Z h0 "com/example/crackline/crackline/SeenValues" "KINDS" "I" (.int (5 : Int32))) :
    MetFree l x (head1 (Jvm.Cond.code x code maxLocals ret :: ws) room_1) (fun a U => a = #[(.int p1), (.int p2), (.long q3), (.int p4), (.int p5), (.long q6)] ∧ Z.Warmed39 U.vm ∧ U.heap = h0) (fun _ _ _ _ _ => True) (fun _ U o U' => ∃ v L, o = .returned v ∧ (v = some (.int (1 : Int32)) ∧ Fr n0 L) ∧ FrameEnd U o U' L room_1.cells room_1.slots) := by
  have rS := own_remS (p1 &&& (2147483647 : Int32)) (own_pos31 p1)
  have rK := own_remK (p2 &&& (2147483647 : Int32)) (own_pos31 p2)
  have rD0 := own_remD q3
  have rD : own_day (own_lrem q3 (68719476736 : Int64)) := ⟨by omega, by omega⟩
  obtain ⟨va12, h12⟩ : ∃ v : Int32, v = if (p5 &&& (1 : Int32)) = (0 : Int32) then (0 : Int32) else (1 : Int32) := ⟨_, rfl⟩
  obtain ⟨va13, h13⟩ : ∃ v : Int32, v = if (p5 &&& (2 : Int32)) = (0 : Int32) then (0 : Int32) else (1 : Int32) := ⟨_, rfl⟩
  obtain ⟨va14, h14⟩ : ∃ v : Int32, v = if (p5 &&& (4 : Int32)) = (0 : Int32) then (0 : Int32) else (1 : Int32) := ⟨_, rfl⟩
  obtain ⟨va15, h15⟩ : ∃ v : Int32, v = if va12 = (0 : Int32) then (own_irem (p4 &&& (2147483647 : Int32)) (429496729 : Int32)) else (own_irem (p1 &&& (2147483647 : Int32)) (429496729 : Int32)) := ⟨_, rfl⟩
  obtain ⟨va16, h16⟩ : ∃ v : Int32, v = if va13 = (0 : Int32) then (own_irem ((p5.toUInt32 >>> ((3 : Int32) &&& 31).toUInt32).toInt32) (5 : Int32)) else (own_irem (p2 &&& (2147483647 : Int32)) (5 : Int32)) := ⟨_, rfl⟩
  obtain ⟨vd17, h17⟩ : ∃ v : Int64, v = if va14 = (0 : Int32) then (own_lrem q6 (68719476736 : Int64)) else ((own_lrem q3 (68719476736 : Int64)) + ((q6 &&& (255 : Int64)) - (128 : Int64))) := ⟨_, rfl⟩
  obtain ⟨va21, h21⟩ : ∃ v : Int32, v = if (own_irem (p1 &&& (2147483647 : Int32)) (429496729 : Int32)) = va15 ∧ (own_irem (p2 &&& (2147483647 : Int32)) (5 : Int32)) = va16 ∧ (own_lrem q3 (68719476736 : Int64)) = vd17 then (1 : Int32) else (0 : Int32) := ⟨_, rfl⟩
  have r15 : 0 ≤ va15.toInt ∧ va15.toInt < 429496729 := by
    rw [h15]
    split
    · exact own_remS _ (own_pos31 p4)
    · exact rS
  have r16 : 0 ≤ va16.toInt ∧ va16.toInt < 5 := by
    rw [h16]
    split
    · exact own_remK _ (own_shr3 p5)
    · exact rK
  have d17 : own_day vd17 := by
    rw [h17]
    split
    · have := own_remD q6
      exact ⟨by omega, by omega⟩
    · exact own_near _ _ rD0
  obtain ⟨vk19, M19, E19, F19⟩ := HK _ rK
  obtain ⟨vk20, M20, E20, F20⟩ := HK _ r16
  obtain ⟨f1, g1, f2, g2, f3, g3, f4, g4, f5, g5, m1, m2, m3, m4, m5, s1, s2, s3, s4, s5⟩ := own_chain (own_K (own_irem (p1 &&& (2147483647 : Int32)) (429496729 : Int32)) (own_irem (p2 &&& (2147483647 : Int32)) (5 : Int32)) (own_lrem q3 (68719476736 : Int64))) (own_K va15 va16 vd17) (own_B (own_lrem q3 (68719476736 : Int64))) (own_B vd17) (own_B_ne _) (own_B_ne _)
  have hs := own_same rS r15 rK r16 rD d17
  refine rm0 l Z a0 hw ws p1 p2 q3 p4 p5 q6 va12 va13 va14 va15 va16 vd17 vk19 vk20 va21 _ _ _ _ _ f1 g1 f2 g2 f3 g3 f4 g4 f5 g5 m1 m2 m3 m4 m5 h0 n0 Z0 h12 h13 h14 h15 h16 h17 M19 M20 h21
    (fun h v ka wa hE hz gv gk gw HS => own_add l Z a0 hw v ka wa (own_irem (p1 &&& (2147483647 : Int32)) (429496729 : Int32)) vk19 (own_irem (p2 &&& (2147483647 : Int32)) (5 : Int32)) (own_lrem q3 (68719476736 : Int64)) _ _ _ _ _ _ _ h n0 hz (S_KINDS.ext hE) (E19.ext hE) (F19.ext hE) rS rK rD HS gv gk gw s1)
    (fun h v ka wa hE hz gv gk gw HS => own_add l Z a0 hw v ka wa (own_irem (p1 &&& (2147483647 : Int32)) (429496729 : Int32)) vk19 (own_irem (p2 &&& (2147483647 : Int32)) (5 : Int32)) (own_lrem q3 (68719476736 : Int64)) _ _ _ _ _ _ _ h n0 hz (S_KINDS.ext hE) (E19.ext hE) (F19.ext hE) rS rK rD HS gv gk gw s2)
    (fun h v ka wa hE hz gv gk gw HS => own_add l Z a0 hw v ka wa va15 vk20 va16 vd17 _ _ _ _ _ _ _ h n0 hz (S_KINDS.ext hE) (E20.ext hE) (F20.ext hE) r15 r16 d17 HS gv gk gw s3)
    (fun h v ka wa hE hz gv gk gw HS => own_add l Z a0 hw v ka wa va15 vk20 va16 vd17 _ _ _ _ _ _ _ h n0 hz (S_KINDS.ext hE) (E20.ext hE) (F20.ext hE) r15 r16 d17 HS gv gk gw s4)
    (fun h v ka wa hE hz gv gk gw HS => own_add l Z a0 hw v ka wa (own_irem (p1 &&& (2147483647 : Int32)) (429496729 : Int32)) vk19 (own_irem (p2 &&& (2147483647 : Int32)) (5 : Int32)) (own_lrem q3 (68719476736 : Int64)) _ _ _ _ _ _ _ h n0 hz (S_KINDS.ext hE) (E19.ext hE) (F19.ext hE) rS rK rD HS gv gk gw s5)
    rfl rfl ?_ rfl rfl
  by_cases q : (own_irem (p1 &&& (2147483647 : Int32)) (429496729 : Int32)) = va15 ∧ (own_irem (p2 &&& (2147483647 : Int32)) (5 : Int32)) = va16 ∧ (own_lrem q3 (68719476736 : Int64)) = vd17
  · rw [if_pos (hs.mpr q), h21, if_pos q]
    decide
  · rw [if_neg (fun z => q (hs.mp z)), h21, if_neg q]
    decide
set_option maxRecDepth 65536 in
set_option maxHeartbeats 40000000 in
theorem comes_1 {Post : Tables → Env → Array Value → State → Outcome → State → Prop} (hpost : ∀ tb e args s v u, (limb_1_1.after args s (.returned v) u = true ∧ limb_1_2.after args s (.returned v) u = true ∧ True) → FrameEnd s (.returned v) u (Jvm.fieldLocs frame_1_writes args s ++ Jvm.arrayLocs frame_1_arrays args s ++ Jvm.staticLocs frame_1_statics s) 16 4224 → Post tb e args s (.returned v) u) :
    ArmFor flags0 classFile x code maxLocals ret World_1 tables_1 room_1 Calls_1 rest_1 Pre_1 Post := by
  intro l hfl _ _ p e ha hc hk s m args below hf hA hF happ hP
  obtain ⟨hcalls, hrest, hpre⟩ := hP
  obtain ⟨-, -, -, hnamed, -, -, -, hat⟩ := (Spec.applies_iff hf).mp happ
  obtain ⟨hg, hn⟩ := and_e (Cond.before_iff.mp (show (Jvm.Cond.and given_1 narrow_1).before args s = true from hpre))
  obtain ⟨g16, g17⟩ := and_e hg
  obtain ⟨g18, g19⟩ := and_e g17
  obtain ⟨g20, g21⟩ := and_e g19
  obtain ⟨g22, g23⟩ := and_e g21
  obtain ⟨g24, g25⟩ := and_e g23
  obtain ⟨g26, g27⟩ := and_e g25
  obtain ⟨w0, w1, w2, w3, w4, w5, rfl⟩ : ∃ w0 w1 w2 w3 w4 w5 : Value, args = #[w0, w1, w2, w3, w4, w5] := by
    have hs : args.size = 6 := by simpa [Cond.value, given_1] using g16
    obtain ⟨L⟩ := args
    match L, hs with
    | [w0, w1, w2, w3, w4, w5], _ => exact ⟨w0, w1, w2, w3, w4, w5, rfl⟩
  have hw := fun d (hd : d ∈ tables_1) => atoms_spec (ws := Jvm.Cond.code x code maxLocals ret :: tables_1) hat d (List.mem_cons_of_mem _ hd)
  have hfit : Fit s := fun {y c} hc i hi => by
    obtain ⟨ha, rfl⟩ := Array.getElem?_eq_some_iff.mp hc
    have q := List.all_eq_true.mp ((Array.all_eq_true_iff_forall_mem.mp hF) _ (Array.getElem_mem ha)) i (List.mem_range.mpr hi)
    simpa [Array.getElem?_eq_getElem hi] using q
  obtain ⟨i0, ei0⟩ := is_v g18
  obtain rfl : w0 = (.int i0) := Option.some.inj ei0
  obtain ⟨i1, ei1⟩ := is_v g20
  obtain rfl : w1 = (.int i1) := Option.some.inj ei1
  obtain ⟨i2, ei2⟩ := isL_v g22
  obtain rfl : w2 = (.long i2) := Option.some.inj ei2
  obtain ⟨i3, ei3⟩ := is_v g24
  obtain rfl : w3 = (.int i3) := Option.some.inj ei3
  obtain ⟨i4, ei4⟩ := is_v g26
  obtain rfl : w4 = (.int i4) := Option.some.inj ei4
  obtain ⟨i5, ei5⟩ := isL_v g27
  obtain rfl : w5 = (.long i5) := Option.some.inj ei5
  obtain ⟨n0, m0⟩ := and_e hn
  obtain ⟨n1, m1⟩ := and_e m0
  obtain ⟨n2, m2⟩ := and_e m1
  obtain ⟨n3, m3⟩ := and_e m2
  obtain ⟨n4, m4⟩ := and_e m3
  obtain ⟨n5, m5⟩ := and_e m4
  obtain ⟨n6, m6⟩ := and_e m5
  obtain ⟨n7, m7⟩ := and_e m6
  obtain ⟨n8, m8⟩ := and_e m7
  obtain ⟨n9, m9⟩ := and_e m8
  obtain ⟨w_SETTLE2, ev_SETTLE2⟩ := exa_v n0
  have E_SETTLE2 := Exa.start ev_SETTLE2 n0
  have S_SETTLE2 := Sta.start ev_SETTLE2 (Or.inr ⟨(hw _ (List.mem_of_getElem? (i := 8) rfl)), (hw _ (List.mem_of_getElem? (i := 9) rfl))⟩)
  have S_KINDS := Sta.start (own_fint n1) (Or.inr ⟨(hw _ (List.mem_of_getElem? (i := 12) rfl)), (hw _ (List.mem_of_getElem? (i := 30) rfl))⟩)
  obtain ⟨w_SETTLE1, ev_SETTLE1⟩ := exa_v n3
  have E_SETTLE1 := Exa.start ev_SETTLE1 n3
  have S_SETTLE1 := Sta.start ev_SETTLE1 (Or.inr ⟨(hw _ (List.mem_of_getElem? (i := 8) rfl)), (hw _ (List.mem_of_getElem? (i := 80) rfl))⟩)
  obtain ⟨w_LOW, ev_LOW⟩ := exa_v n4
  have E_LOW := Exa.start ev_LOW n4
  have S_LOW := Sta.start ev_LOW (Or.inr ⟨(hw _ (List.mem_of_getElem? (i := 8) rfl)), (hw _ (List.mem_of_getElem? (i := 82) rfl))⟩)
  obtain ⟨w_RATE, ev_RATE⟩ := exa_v n7
  have E_RATE := Exa.start ev_RATE n7
  have S_RATE := Sta.start ev_RATE (Or.inr ⟨(hw _ (List.mem_of_getElem? (i := 8) rfl)), (hw _ (List.mem_of_getElem? (i := 86) rfl))⟩)
  obtain ⟨w_HIGH, ev_HIGH⟩ := exa_v n9
  have E_HIGH := Exa.start ev_HIGH n9
  have S_HIGH := Sta.start ev_HIGH (Or.inr ⟨(hw _ (List.mem_of_getElem? (i := 8) rfl)), (hw _ (List.mem_of_getElem? (i := 88) rfl))⟩)
  have F_SETTLE2_ordinal := Fld.start ((fld_at ev_SETTLE2).symm.trans (own_fint n2))
  have F_SETTLE1_ordinal := Fld.start ((fld_at ev_SETTLE1).symm.trans (own_fint n5))
  have F_LOW_ordinal := Fld.start ((fld_at ev_LOW).symm.trans (own_fint n6))
  have F_RATE_ordinal := Fld.start ((fld_at ev_RATE).symm.trans (own_fint n8))
  have F_HIGH_ordinal := Fld.start ((fld_at ev_HIGH).symm.trans (own_fint m9))
  have HK : ∀ i : Int32, 0 ≤ i.toInt ∧ i.toInt < 5 → ∃ w : Addr, M1 l s [] i s.heap s.heap.size (some (.ref w)) ∧ Exa s s.heap w "com/example/crackline/crackline/PriceKind" ∧ Fld s s.heap w "java/lang/Enum" "ordinal" "I" (.int i) := by
    intro i hi
    rcases own_five i hi with rfl | rfl | rfl | rfl | rfl
    · exact ⟨w_HIGH, rm1_0 l s _ hw [] _ w_HIGH s.heap s.heap.size (Nat.le_refl _) S_HIGH  rfl, E_HIGH, F_HIGH_ordinal⟩
    · exact ⟨w_LOW, rm1_1 l s _ hw [] _ w_LOW s.heap s.heap.size (Nat.le_refl _) S_LOW (by decide) rfl, E_LOW, F_LOW_ordinal⟩
    · exact ⟨w_SETTLE1, rm1_2 l s _ hw [] _ w_SETTLE1 s.heap s.heap.size (Nat.le_refl _) S_SETTLE1 (by decide) (by decide) rfl, E_SETTLE1, F_SETTLE1_ordinal⟩
    · exact ⟨w_SETTLE2, rm1_3 l s _ hw [] _ w_SETTLE2 s.heap s.heap.size (Nat.le_refl _) S_SETTLE2 (by decide) (by decide) (by decide) rfl, E_SETTLE2, F_SETTLE2_ordinal⟩
    · exact ⟨w_RATE, rm1_4 l s _ hw [] _ w_RATE s.heap s.heap.size (Nat.le_refl _) S_RATE (by decide) (by decide) (by decide) (by decide) , E_RATE, F_RATE_ordinal⟩
  obtain ⟨n, o, h1, h2, h3, _, L, rfl, ⟨rfl, N⟩, hq⟩ := own_law l s _ hw tables_1 i0 i1 i2 i3 i4 i5 s.heap s.heap.size (Nat.le_refl _) HK S_KINDS p e ha hc hk s m _ below hf ((Spec.applies_iff_loose hf).mp happ).1 ⟨rfl, State.Warmed39.refl s, rfl⟩ trivial
  refine ⟨n, _, h1, h2, h3, hpost _ _ _ _ _ _ ⟨Cond.after_iff.mpr rfl, Cond.after_iff.mpr (eq_i res_at (Term.int_eval (1)) rfl), trivial⟩ ⟨hq.1, hq.2.1, (hq.2.2.sift fun y hy => Or.inr (N y hy)).mono (by decide) (by decide)⟩⟩
theorem main_1_1 : Claimed_1_1 := comes_1 fun _ _ _ _ _ _ h hF => ⟨h.1, hF⟩
theorem main_1_2 : Claimed_1_2 := comes_1 fun _ _ _ _ _ _ h hF => ⟨h.2.1, hF⟩
end Jvm.Pilot.@@N@@
namespace Jvm.Pilot.@@N@@
open Jvm Jvm.ClassFile Sem Op Lib Jvm.Free Jvm.Stand Jvm.Pilot.@@N@@.Jvm.D
/-! MADE BY PROGRAM (witnessworld.py) out of the Statement's table words and the real class files: 20 classes; the members and pool entries that the words name. The judged class is class 1, her method 2. -/
namespace start1
open Jvm.ClassFile
def u (s : String) : CpInfo := .utf8 (stringToUtf16 s)
/-- a pool by its gaps: so many unusable entries, then the entry; so many at the end -/
def gap : Nat → List CpInfo → List CpInfo
  | 0, r => r
  | n + 1, r => .unusable :: gap n r
def poolList (es : List (Nat × CpInfo)) (last : Nat) : List CpInfo := es.foldr (fun e r => gap e.1 (e.2 :: r)) (gap last [])
def pool (es : List (Nat × CpInfo)) (last : Nat) : Array CpInfo := ⟨poolList es last⟩
def fileOf (pool : Array CpInfo) (this : Nat) (attrs : Array Attribute := #[]) (ms : Array MethodInfo := #[]) (fl : Nat := 33) (sup : Nat := 0) (ifs : Array Nat := #[]) (fds : Array FieldInfo := #[]) : ClassFile where
  minorVersion := 0
  majorVersion := 65
  constantPool := pool
  accessFlags := fl
  thisClass := this
  superClass := sup
  interfaces := ifs
  fields := fds
  methods := ms
  attributes := attrs
def plain (name : String) (sup : Option ClassId) : Class where
  name := name
  kind := .ordinary
  loader := none
  accessFlags := 33
  super := sup
  interfaces := #[]
  cf := none
  fields := #[]
  methods := #[]
  instanceTypes := #[]
  staticTypes := #[]
  resolved := #[]
  callSites := []
  init := .initialized
  statics := none
  mirror := none

def pool0 : Array CpInfo := pool [(5, u "<init>"), (0, u "()V"), (1, .class_ 10), (1, u "java/lang/Object")] 113

def k0c0 : Code := { maxStack := 0, maxLocals := 1, code := object_method_1_code, exceptionTable := #[], attributes := #[] }
def k0m0 : Method := { name := "<init>", desc := "()V", sig := { parameters := [], returnType := none }, accessFlags := 1, code := some k0c0 }
/-- java/lang/Object -/
def k0 : Class := { plain "java/lang/Object" none with
  accessFlags := 33
  interfaces := #[]
  cf := some (fileOf pool0 8 #[] #[{ accessFlags := 1, nameIndex := 5, descriptorIndex := 6, attributes := #[] }] 33 0 #[] #[])
  fields := #[]
  methods := #[k0m0]
  instanceTypes := #[]
  staticTypes := #[]
  resolved := Array.replicate 124 none
  statics := none }

def pool1 : Array CpInfo := pool [(2, .class_ 4), (0, .nameAndType 5 6), (0, u "java/lang/Object"), (0, u "<init>"), (0, u "()V"), (0, .fieldref 8 9), (0, .class_ 10), (0, .nameAndType 11 12), (0, u "com/example/crackline/crackline/PriceKind"), (0, u "HIGH"), (0, u "Lcom/example/crackline/crackline/PriceKind;"), (0, .fieldref 8 14), (0, .nameAndType 15 12), (0, u "LOW"), (0, .fieldref 8 17), (0, .nameAndType 18 12), (0, u "SETTLE1"), (0, .fieldref 8 20), (0, .nameAndType 21 12), (0, u "SETTLE2"), (0, .fieldref 8 23), (0, .nameAndType 24 12), (0, u "RATE"), (0, .integer 2147483647), (0, .integer 429496729), (0, .long 68719476736), (1, .long 255), (1, .long 128), (1, .methodref 34 35), (0, .class_ 36), (0, .nameAndType 37 38), (0, u "com/example/crackline/crackline/SeenValuesAddPinLaw"), (0, u "kindOf"), (0, u "(I)Lcom/example/crackline/crackline/PriceKind;"), (0, .class_ 40), (0, u "com/example/crackline/crackline/SeenValues"), (0, .methodref 39 3), (0, .methodref 39 43), (0, .nameAndType 44 45), (0, u "add"), (0, u "(ILcom/example/crackline/crackline/PriceKind;J)Z"), (3, u "law"), (0, u "(IIJIIJ)Z")] 2

def k1m0 : Method := { name := "<init>", desc := "()V", sig := { parameters := [], returnType := none }, accessFlags := 1, code := none }
def k1c1 : Code := { maxStack := 2, maxLocals := 1, code := method_2_code, exceptionTable := #[], attributes := #[] }
def k1m1 : Method := { name := "kindOf", desc := "(I)Lcom/example/crackline/crackline/PriceKind;", sig := { parameters := [.int], returnType := some (.object "com/example/crackline/crackline/PriceKind") }, accessFlags := 10, code := some k1c1 }
def k1c2 : Code := { maxStack := 6, maxLocals := 28, code := code, exceptionTable := #[], attributes := #[] }
def k1m2 : Method := { name := "law", desc := "(IIJIIJ)Z", sig := { parameters := [.int, .int, .long, .int, .int, .long], returnType := some .boolean }, accessFlags := 9, code := some k1c2 }
/-- com/example/crackline/crackline/SeenValuesAddPinLaw -/
def k1 : Class := { plain "com/example/crackline/crackline/SeenValuesAddPinLaw" (some 0) with
  accessFlags := 49
  interfaces := #[]
  cf := some (fileOf pool1 34 #[] #[{ accessFlags := 1, nameIndex := 5, descriptorIndex := 6, attributes := #[] }, { accessFlags := 10, nameIndex := 37, descriptorIndex := 38, attributes := #[] }, { accessFlags := 9, nameIndex := 49, descriptorIndex := 50, attributes := #[] }] 49 2 #[] #[])
  fields := #[]
  methods := #[k1m0, k1m1, k1m2]
  instanceTypes := #[]
  staticTypes := #[]
  resolved := Array.replicate 53 none
  statics := none }

def pool2 : Array CpInfo := pool [(1, .class_ 2), (0, u "java/lang/constant/Constable"), (0, .class_ 4), (0, u "java/lang/Object")] 6

/-- java/lang/constant/Constable -/
def k2 : Class := { plain "java/lang/constant/Constable" (some 0) with
  accessFlags := 1537
  interfaces := #[]
  cf := some (fileOf pool2 1 #[] #[] 1537 3 #[] #[])
  fields := #[]
  methods := #[]
  instanceTypes := #[]
  staticTypes := #[]
  resolved := Array.replicate 11 none
  statics := none }

def pool3 : Array CpInfo := pool [(1, .class_ 2), (0, u "java/lang/Comparable"), (0, .class_ 4), (0, u "java/lang/Object")] 7

/-- java/lang/Comparable -/
def k3 : Class := { plain "java/lang/Comparable" (some 0) with
  accessFlags := 1537
  interfaces := #[]
  cf := some (fileOf pool3 1 #[] #[] 1537 3 #[] #[])
  fields := #[]
  methods := #[]
  instanceTypes := #[]
  staticTypes := #[]
  resolved := Array.replicate 12 none
  statics := none }

def pool4 : Array CpInfo := pool [(1, .class_ 2), (0, u "java/io/Serializable"), (0, .class_ 4), (0, u "java/lang/Object")] 2

/-- java/io/Serializable -/
def k4 : Class := { plain "java/io/Serializable" (some 0) with
  accessFlags := 1537
  interfaces := #[]
  cf := some (fileOf pool4 1 #[] #[] 1537 3 #[] #[])
  fields := #[]
  methods := #[]
  instanceTypes := #[]
  staticTypes := #[]
  resolved := Array.replicate 7 none
  statics := none }

def pool5 : Array CpInfo := pool [(2, .class_ 4), (1, u "java/lang/Enum"), (0, u "name"), (0, u "Ljava/lang/String;"), (0, .fieldref 2 8), (0, .nameAndType 9 10), (0, u "ordinal"), (0, u "I"), (1, .class_ 14), (1, u "java/lang/Object"), (4, u "hash"), (86, .class_ 108), (1, u "java/lang/Enum$EnumDesc"), (2, .class_ 112), (0, u "java/lang/constant/Constable"), (0, .class_ 114), (0, u "java/lang/Comparable"), (0, .class_ 116), (0, u "java/io/Serializable"), (9, u "()I")] 77

def k5c0 : Code := { maxStack := 1, maxLocals := 1, code := jdk_37_method_2_code, exceptionTable := #[], attributes := #[] }
def k5m0 : Method := { name := "ordinal", desc := "()I", sig := { parameters := [], returnType := some .int }, accessFlags := 17, code := some k5c0 }
/-- java/lang/Enum -/
def k5 : Class := { plain "java/lang/Enum" (some 0) with
  accessFlags := 1057
  interfaces := #[2, 3, 4]
  cf := some (fileOf pool5 2 #[.nestMembers #[106]] #[{ accessFlags := 17, nameIndex := 9, descriptorIndex := 126, attributes := #[] }] 1057 12 #[111, 113, 115] #[{ accessFlags := 18, nameIndex := 5, descriptorIndex := 6, attributes := #[] }, { accessFlags := 18, nameIndex := 9, descriptorIndex := 10, attributes := #[] }, { accessFlags := 2, nameIndex := 19, descriptorIndex := 10, attributes := #[] }])
  fields := #[{ name := "name", type := (.object "java/lang/String"), accessFlags := 18, slot := 0, constantValue := 0 }, { name := "ordinal", type := .int, accessFlags := 18, slot := 1, constantValue := 0 }, { name := "hash", type := .int, accessFlags := 2, slot := 2, constantValue := 0 }]
  methods := #[k5m0]
  instanceTypes := #[(.object "java/lang/String"), .int, .int]
  staticTypes := #[]
  resolved := Array.replicate 204 none
  statics := none }

def pool6 : Array CpInfo := pool [(1, .class_ 2), (0, u "com/example/crackline/crackline/PriceKind"), (2, u "HIGH"), (0, u "Lcom/example/crackline/crackline/PriceKind;"), (2, u "LOW"), (2, u "SETTLE1"), (2, u "SETTLE2"), (2, u "RATE"), (2, u "$VALUES"), (0, u "[Lcom/example/crackline/crackline/PriceKind;"), (6, .class_ 31), (1, u "java/lang/Enum"), (24, u "label"), (0, u "Ljava/lang/String;"), (2, u "KINDS")] 41

/-- com/example/crackline/crackline/PriceKind -/
def k6 : Class := { plain "com/example/crackline/crackline/PriceKind" (some 5) with
  accessFlags := 16433
  interfaces := #[]
  cf := some (fileOf pool6 1 #[] #[] 16433 29 #[] #[{ accessFlags := 16409, nameIndex := 5, descriptorIndex := 6, attributes := #[] }, { accessFlags := 16409, nameIndex := 9, descriptorIndex := 6, attributes := #[] }, { accessFlags := 16409, nameIndex := 12, descriptorIndex := 6, attributes := #[] }, { accessFlags := 16409, nameIndex := 15, descriptorIndex := 6, attributes := #[] }, { accessFlags := 16409, nameIndex := 18, descriptorIndex := 6, attributes := #[] }, { accessFlags := 26, nameIndex := 60, descriptorIndex := 22, attributes := #[] }, { accessFlags := 18, nameIndex := 56, descriptorIndex := 57, attributes := #[] }, { accessFlags := 4122, nameIndex := 21, descriptorIndex := 22, attributes := #[] }])
  fields := #[{ name := "HIGH", type := (.object "com/example/crackline/crackline/PriceKind"), accessFlags := 16409, slot := 0, constantValue := 0 }, { name := "LOW", type := (.object "com/example/crackline/crackline/PriceKind"), accessFlags := 16409, slot := 1, constantValue := 0 }, { name := "SETTLE1", type := (.object "com/example/crackline/crackline/PriceKind"), accessFlags := 16409, slot := 2, constantValue := 0 }, { name := "SETTLE2", type := (.object "com/example/crackline/crackline/PriceKind"), accessFlags := 16409, slot := 3, constantValue := 0 }, { name := "RATE", type := (.object "com/example/crackline/crackline/PriceKind"), accessFlags := 16409, slot := 4, constantValue := 0 }, { name := "KINDS", type := (.array (.object "com/example/crackline/crackline/PriceKind")), accessFlags := 26, slot := 5, constantValue := 0 }, { name := "label", type := (.object "java/lang/String"), accessFlags := 18, slot := 3, constantValue := 0 }, { name := "$VALUES", type := (.array (.object "com/example/crackline/crackline/PriceKind")), accessFlags := 4122, slot := 6, constantValue := 0 }]
  methods := #[]
  instanceTypes := #[(.object "java/lang/String"), .int, .int, (.object "java/lang/String")]
  staticTypes := #[(.object "com/example/crackline/crackline/PriceKind"), (.object "com/example/crackline/crackline/PriceKind"), (.object "com/example/crackline/crackline/PriceKind"), (.object "com/example/crackline/crackline/PriceKind"), (.object "com/example/crackline/crackline/PriceKind"), (.array (.object "com/example/crackline/crackline/PriceKind")), (.array (.object "com/example/crackline/crackline/PriceKind"))]
  resolved := Array.replicate 102 none
  statics := some 0 }

def pool7 : Array CpInfo := pool [(1, .class_ 2), (0, u "java/lang/Long"), (0, .methodref 4 5), (0, .class_ 6), (0, .nameAndType 7 8), (0, u "java/lang/Object"), (0, u "<init>"), (0, u "()V"), (0, .fieldref 10 11), (0, .class_ 12), (0, .nameAndType 13 14), (0, u "com/example/crackline/crackline/SeenValues"), (0, u "keys"), (0, u "[J"), (0, .fieldref 10 16), (0, .nameAndType 17 14), (0, u "words"), (0, .fieldref 10 19), (0, .nameAndType 20 21), (0, u "KINDS"), (0, u "I"), (0, .methodref 23 24), (0, .class_ 25), (0, .nameAndType 26 27), (0, u "java/lang/Math"), (0, u "multiplyExact"), (0, u "(II)I"), (0, .methodref 29 30), (0, .class_ 31), (0, .nameAndType 32 33), (0, u "com/example/crackline/crackline/PriceKind"), (0, u "ordinal"), (0, u "()I"), (0, .methodref 23 35), (0, .nameAndType 36 27), (0, u "addExact"), (2, .methodref 23 40), (0, .nameAndType 41 42), (0, u "floorDiv"), (0, u "(JI)J"), (0, .methodref 23 44), (0, .nameAndType 45 46), (0, u "toIntExact"), (0, u "(J)I"), (0, .long 4294967295), (1, .methodref 23 50), (0, .nameAndType 51 52), (0, u "floorMod"), (0, u "(JI)I"), (0, .methodref 10 54), (0, .nameAndType 55 46), (0, u "slot"), (0, .fieldref 10 57), (0, .nameAndType 58 21), (0, u "size"), (3, .long 11400714819323198485), (1, .methodref 1 65), (0, .nameAndType 66 46), (0, u "numberOfLeadingZeros"), (4, u "DAYS_PER_WORD"), (4, u "add"), (0, u "(ILcom/example/crackline/crackline/PriceKind;J)Z")] 5

def k7c0 : Code := { maxStack := 2, maxLocals := 1, code := prog_41_method_1_code, exceptionTable := #[], attributes := #[] }
def k7m0 : Method := { name := "<init>", desc := "()V", sig := { parameters := [], returnType := none }, accessFlags := 0, code := some k7c0 }
def k7c1 : Code := { maxStack := 6, maxLocals := 13, code := prog_41_method_2_code, exceptionTable := #[], attributes := #[] }
def k7m1 : Method := { name := "add", desc := "(ILcom/example/crackline/crackline/PriceKind;J)Z", sig := { parameters := [.int, (.object "com/example/crackline/crackline/PriceKind"), .long], returnType := some .boolean }, accessFlags := 0, code := some k7c1 }
def k7c2 : Code := { maxStack := 4, maxLocals := 5, code := prog_41_method_3_code, exceptionTable := #[], attributes := #[] }
def k7m2 : Method := { name := "slot", desc := "(J)I", sig := { parameters := [.long], returnType := some .int }, accessFlags := 2, code := some k7c2 }
/-- com/example/crackline/crackline/SeenValues -/
def k7 : Class := { plain "com/example/crackline/crackline/SeenValues" (some 0) with
  accessFlags := 48
  interfaces := #[]
  cf := some (fileOf pool7 10 #[] #[{ accessFlags := 0, nameIndex := 7, descriptorIndex := 8, attributes := #[] }, { accessFlags := 0, nameIndex := 76, descriptorIndex := 77, attributes := #[] }, { accessFlags := 2, nameIndex := 55, descriptorIndex := 46, attributes := #[] }] 48 4 #[] #[{ accessFlags := 26, nameIndex := 71, descriptorIndex := 21, attributes := #[] }, { accessFlags := 26, nameIndex := 20, descriptorIndex := 21, attributes := #[] }, { accessFlags := 2, nameIndex := 13, descriptorIndex := 14, attributes := #[] }, { accessFlags := 2, nameIndex := 17, descriptorIndex := 14, attributes := #[] }, { accessFlags := 2, nameIndex := 58, descriptorIndex := 21, attributes := #[] }])
  fields := #[{ name := "DAYS_PER_WORD", type := .int, accessFlags := 26, slot := 0, constantValue := 0 }, { name := "KINDS", type := .int, accessFlags := 26, slot := 1, constantValue := 0 }, { name := "keys", type := (.array .long), accessFlags := 2, slot := 0, constantValue := 0 }, { name := "words", type := (.array .long), accessFlags := 2, slot := 1, constantValue := 0 }, { name := "size", type := .int, accessFlags := 2, slot := 2, constantValue := 0 }]
  methods := #[k7m0, k7m1, k7m2]
  instanceTypes := #[(.array .long), (.array .long), .int]
  staticTypes := #[.int, .int]
  resolved := Array.replicate 83 none
  statics := some 1 }

def pool8 : Array CpInfo := pool [(1, .class_ 2), (0, u "java/lang/Math"), (1, .class_ 6), (1, u "java/lang/Object"), (0, u "<init>"), (0, u "()V"), (89, .class_ 100), (1, u "java/lang/Math$RandomNumberGeneratorHolder"), (19, u "multiplyExact"), (0, u "(JJ)J"), (21, .methodref 1 144), (0, .nameAndType 145 121), (0, u "floorDiv"), (0, .methodref 1 147), (0, .nameAndType 148 121), (0, u "floorMod"), (23, u "negativeZeroFloatBits"), (0, u "J"), (2, u "negativeZeroDoubleBits"), (68, u "$assertionsDisabled"), (0, u "Z"), (88, u "(II)I"), (2, u "twoToTheDoubleScaleDown"), (0, u "D"), (4, u "twoToTheDoubleScaleUp"), (9, u "E"), (3, u "PI"), (2, u "TAU"), (2, u "DEGREES_TO_RADIANS"), (0, u "RADIANS_TO_DEGREES"), (27, u "addExact"), (1, u "(JI)J"), (9, u "toIntExact"), (0, u "(J)I"), (13, u "(JI)I")] 39

def k8m0 : Method := { name := "<init>", desc := "()V", sig := { parameters := [], returnType := none }, accessFlags := 2, code := none }
def k8c1 : Code := { maxStack := 3, maxLocals := 3, code := jdk_29_method_24_code, exceptionTable := #[], attributes := #[] }
def k8m1 : Method := { name := "addExact", desc := "(II)I", sig := { parameters := [.int, .int], returnType := some .int }, accessFlags := 9, code := some k8c1 }
def k8c2 : Code := { maxStack := 4, maxLocals := 4, code := jdk_29_method_28_code, exceptionTable := #[], attributes := #[] }
def k8m2 : Method := { name := "multiplyExact", desc := "(II)I", sig := { parameters := [.int, .int], returnType := some .int }, accessFlags := 9, code := some k8c2 }
def k8c3 : Code := { maxStack := 4, maxLocals := 2, code := jdk_29_method_43_code, exceptionTable := #[], attributes := #[] }
def k8m3 : Method := { name := "toIntExact", desc := "(J)I", sig := { parameters := [.long], returnType := some .int }, accessFlags := 9, code := some k8c3 }
def k8c4 : Code := { maxStack := 4, maxLocals := 3, code := jdk_29_method_48_code, exceptionTable := #[], attributes := #[] }
def k8m4 : Method := { name := "floorDiv", desc := "(JI)J", sig := { parameters := [.long, .int], returnType := some .long }, accessFlags := 9, code := some k8c4 }
def k8c5 : Code := { maxStack := 4, maxLocals := 6, code := jdk_29_method_49_code, exceptionTable := #[], attributes := #[] }
def k8m5 : Method := { name := "floorDiv", desc := "(JJ)J", sig := { parameters := [.long, .long], returnType := some .long }, accessFlags := 9, code := some k8c5 }
def k8c6 : Code := { maxStack := 4, maxLocals := 3, code := jdk_29_method_51_code, exceptionTable := #[], attributes := #[] }
def k8m6 : Method := { name := "floorMod", desc := "(JI)I", sig := { parameters := [.long, .int], returnType := some .int }, accessFlags := 9, code := some k8c6 }
def k8c7 : Code := { maxStack := 4, maxLocals := 6, code := jdk_29_method_52_code, exceptionTable := #[], attributes := #[] }
def k8m7 : Method := { name := "floorMod", desc := "(JJ)J", sig := { parameters := [.long, .long], returnType := some .long }, accessFlags := 9, code := some k8c7 }
/-- java/lang/Math -/
def k8 : Class := { plain "java/lang/Math" (some 0) with
  accessFlags := 49
  interfaces := #[]
  cf := some (fileOf pool8 1 #[.nestMembers #[98]] #[{ accessFlags := 2, nameIndex := 7, descriptorIndex := 8, attributes := #[] }, { accessFlags := 9, nameIndex := 393, descriptorIndex := 335, attributes := #[] }, { accessFlags := 9, nameIndex := 120, descriptorIndex := 335, attributes := #[] }, { accessFlags := 9, nameIndex := 405, descriptorIndex := 406, attributes := #[] }, { accessFlags := 9, nameIndex := 145, descriptorIndex := 395, attributes := #[] }, { accessFlags := 9, nameIndex := 145, descriptorIndex := 121, attributes := #[] }, { accessFlags := 9, nameIndex := 148, descriptorIndex := 420, attributes := #[] }, { accessFlags := 9, nameIndex := 148, descriptorIndex := 121, attributes := #[] }] 49 4 #[] #[{ accessFlags := 25, nameIndex := 354, descriptorIndex := 339, attributes := #[] }, { accessFlags := 25, nameIndex := 358, descriptorIndex := 339, attributes := #[] }, { accessFlags := 25, nameIndex := 361, descriptorIndex := 339, attributes := #[] }, { accessFlags := 26, nameIndex := 364, descriptorIndex := 339, attributes := #[] }, { accessFlags := 26, nameIndex := 365, descriptorIndex := 339, attributes := #[] }, { accessFlags := 26, nameIndex := 172, descriptorIndex := 173, attributes := #[] }, { accessFlags := 26, nameIndex := 176, descriptorIndex := 173, attributes := #[] }, { accessFlags := 8, nameIndex := 344, descriptorIndex := 339, attributes := #[] }, { accessFlags := 8, nameIndex := 338, descriptorIndex := 339, attributes := #[] }, { accessFlags := 4120, nameIndex := 245, descriptorIndex := 246, attributes := #[] }])
  fields := #[{ name := "E", type := .double, accessFlags := 25, slot := 0, constantValue := 0 }, { name := "PI", type := .double, accessFlags := 25, slot := 1, constantValue := 0 }, { name := "TAU", type := .double, accessFlags := 25, slot := 2, constantValue := 0 }, { name := "DEGREES_TO_RADIANS", type := .double, accessFlags := 26, slot := 3, constantValue := 0 }, { name := "RADIANS_TO_DEGREES", type := .double, accessFlags := 26, slot := 4, constantValue := 0 }, { name := "negativeZeroFloatBits", type := .long, accessFlags := 26, slot := 5, constantValue := 0 }, { name := "negativeZeroDoubleBits", type := .long, accessFlags := 26, slot := 6, constantValue := 0 }, { name := "twoToTheDoubleScaleUp", type := .double, accessFlags := 8, slot := 7, constantValue := 0 }, { name := "twoToTheDoubleScaleDown", type := .double, accessFlags := 8, slot := 8, constantValue := 0 }, { name := "$assertionsDisabled", type := .boolean, accessFlags := 4120, slot := 9, constantValue := 0 }]
  methods := #[k8m0, k8m1, k8m2, k8m3, k8m4, k8m5, k8m6, k8m7]
  instanceTypes := #[]
  staticTypes := #[.double, .double, .double, .double, .double, .long, .long, .double, .double, .boolean]
  resolved := Array.replicate 460 none
  statics := none }

def pool9 : Array CpInfo := pool [(2, .class_ 4), (1, u "java/lang/Object"), (0, u "<init>"), (0, u "()V"), (1, .class_ 10), (1, u "java/lang/Number"), (2, .class_ 14), (0, u "java/io/Serializable"), (0, u "serialVersionUID"), (0, u "J")] 20

def k9m0 : Method := { name := "<init>", desc := "()V", sig := { parameters := [], returnType := none }, accessFlags := 1, code := none }
/-- java/lang/Number -/
def k9 : Class := { plain "java/lang/Number" (some 0) with
  accessFlags := 1057
  interfaces := #[4]
  cf := some (fileOf pool9 8 #[] #[{ accessFlags := 1, nameIndex := 5, descriptorIndex := 6, attributes := #[] }] 1057 2 #[13] #[{ accessFlags := 26, nameIndex := 15, descriptorIndex := 16, attributes := #[] }])
  fields := #[{ name := "serialVersionUID", type := .long, accessFlags := 26, slot := 0, constantValue := 0 }]
  methods := #[k9m0]
  instanceTypes := #[]
  staticTypes := #[.long]
  resolved := Array.replicate 37 none
  statics := none }

def pool10 : Array CpInfo := pool [(1, .class_ 2), (0, u "java/lang/constant/ConstantDesc"), (0, .class_ 4), (0, u "java/lang/Object")] 32

/-- java/lang/constant/ConstantDesc -/
def k10 : Class := { plain "java/lang/constant/ConstantDesc" (some 0) with
  accessFlags := 1537
  interfaces := #[]
  cf := some (fileOf pool10 1 #[] #[] 1537 3 #[] #[])
  fields := #[]
  methods := #[]
  instanceTypes := #[]
  staticTypes := #[]
  resolved := Array.replicate 37 none
  statics := none }

def pool11 : Array CpInfo := pool [(1, .class_ 2), (0, u "java/lang/Long"), (15, .class_ 20), (1, u "java/lang/Integer"), (79, u "numberOfLeadingZeros"), (0, u "(J)I"), (133, .class_ 237), (1, u "java/lang/Long$LongCache"), (33, .class_ 272), (0, u "java/lang/Number"), (2, u "value"), (0, u "J"), (31, .methodref 18 309), (0, .nameAndType 100 310), (0, u "(I)I"), (50, u "TYPE"), (0, u "Ljava/lang/Class;"), (0, .class_ 364), (0, u "java/lang/Comparable"), (0, .class_ 366), (0, u "java/lang/constant/Constable"), (0, .class_ 368), (0, u "java/lang/constant/ConstantDesc"), (0, u "MIN_VALUE"), (1, u "MAX_VALUE"), (4, u "SIZE"), (0, u "I"), (1, u "BYTES"), (1, u "serialVersionUID")] 142

def k11c0 : Code := { maxStack := 3, maxLocals := 3, code := jdk_35_method_48_code, exceptionTable := #[], attributes := #[] }
def k11m0 : Method := { name := "numberOfLeadingZeros", desc := "(J)I", sig := { parameters := [.long], returnType := some .int }, accessFlags := 9, code := some k11c0 }
/-- java/lang/Long -/
def k11 : Class := { plain "java/lang/Long" (some 9) with
  accessFlags := 49
  interfaces := #[3, 2, 10]
  cf := some (fileOf pool11 1 #[.nestMembers #[235]] #[{ accessFlags := 9, nameIndex := 100, descriptorIndex := 101, attributes := #[] }] 49 271 #[363, 365, 367] #[{ accessFlags := 25, nameIndex := 369, descriptorIndex := 276, attributes := #[] }, { accessFlags := 25, nameIndex := 371, descriptorIndex := 276, attributes := #[] }, { accessFlags := 25, nameIndex := 361, descriptorIndex := 362, attributes := #[] }, { accessFlags := 18, nameIndex := 275, descriptorIndex := 276, attributes := #[] }, { accessFlags := 25, nameIndex := 376, descriptorIndex := 377, attributes := #[] }, { accessFlags := 25, nameIndex := 379, descriptorIndex := 377, attributes := #[] }, { accessFlags := 26, nameIndex := 381, descriptorIndex := 276, attributes := #[] }])
  fields := #[{ name := "MIN_VALUE", type := .long, accessFlags := 25, slot := 0, constantValue := 0 }, { name := "MAX_VALUE", type := .long, accessFlags := 25, slot := 1, constantValue := 0 }, { name := "TYPE", type := (.object "java/lang/Class"), accessFlags := 25, slot := 2, constantValue := 0 }, { name := "value", type := .long, accessFlags := 18, slot := 0, constantValue := 0 }, { name := "SIZE", type := .int, accessFlags := 25, slot := 3, constantValue := 0 }, { name := "BYTES", type := .int, accessFlags := 25, slot := 4, constantValue := 0 }, { name := "serialVersionUID", type := .long, accessFlags := 26, slot := 5, constantValue := 0 }]
  methods := #[k11m0]
  instanceTypes := #[.long]
  staticTypes := #[.long, .long, (.object "java/lang/Class"), .int, .int, .long]
  resolved := Array.replicate 524 none
  statics := none }

def pool12 : Array CpInfo := pool [(1, .class_ 2), (0, u "java/lang/Integer"), (16, u "digits"), (0, u "[C"), (32, u "numberOfLeadingZeros"), (0, u "(I)I"), (30, u "DigitOnes"), (0, u "[B"), (2, u "DigitTens"), (99, .class_ 190), (0, u "java/lang/Integer$IntegerCache"), (3, u "I"), (8, .class_ 204), (0, u "java/lang/Number"), (2, u "value"), (56, .integer 65536), (37, u "TYPE"), (0, u "Ljava/lang/Class;"), (0, .class_ 305), (0, u "java/lang/Comparable"), (0, .class_ 307), (0, u "java/lang/constant/Constable"), (0, .class_ 309), (0, u "java/lang/constant/ConstantDesc"), (0, u "MIN_VALUE"), (1, u "MAX_VALUE"), (3, u "SIZE"), (1, u "BYTES"), (1, u "serialVersionUID"), (0, u "J")] 131

def k12c0 : Code := { maxStack := 3, maxLocals := 2, code := jdk_33_method_47_code, exceptionTable := #[], attributes := #[] }
def k12m0 : Method := { name := "numberOfLeadingZeros", desc := "(I)I", sig := { parameters := [.int], returnType := some .int }, accessFlags := 9, code := some k12c0 }
/-- java/lang/Integer -/
def k12 : Class := { plain "java/lang/Integer" (some 9) with
  accessFlags := 49
  interfaces := #[3, 2, 10]
  cf := some (fileOf pool12 1 #[.nestMembers #[189]] #[{ accessFlags := 9, nameIndex := 53, descriptorIndex := 54, attributes := #[] }] 49 203 #[304, 306, 308] #[{ accessFlags := 25, nameIndex := 310, descriptorIndex := 194, attributes := #[] }, { accessFlags := 25, nameIndex := 312, descriptorIndex := 194, attributes := #[] }, { accessFlags := 25, nameIndex := 302, descriptorIndex := 303, attributes := #[] }, { accessFlags := 24, nameIndex := 19, descriptorIndex := 20, attributes := #[] }, { accessFlags := 24, nameIndex := 89, descriptorIndex := 86, attributes := #[] }, { accessFlags := 24, nameIndex := 85, descriptorIndex := 86, attributes := #[] }, { accessFlags := 18, nameIndex := 207, descriptorIndex := 194, attributes := #[] }, { accessFlags := 25, nameIndex := 316, descriptorIndex := 194, attributes := #[] }, { accessFlags := 25, nameIndex := 318, descriptorIndex := 194, attributes := #[] }, { accessFlags := 26, nameIndex := 320, descriptorIndex := 321, attributes := #[] }])
  fields := #[{ name := "MIN_VALUE", type := .int, accessFlags := 25, slot := 0, constantValue := 0 }, { name := "MAX_VALUE", type := .int, accessFlags := 25, slot := 1, constantValue := 0 }, { name := "TYPE", type := (.object "java/lang/Class"), accessFlags := 25, slot := 2, constantValue := 0 }, { name := "digits", type := (.array .char), accessFlags := 24, slot := 3, constantValue := 0 }, { name := "DigitTens", type := (.array .byte), accessFlags := 24, slot := 4, constantValue := 0 }, { name := "DigitOnes", type := (.array .byte), accessFlags := 24, slot := 5, constantValue := 0 }, { name := "value", type := .int, accessFlags := 18, slot := 0, constantValue := 0 }, { name := "SIZE", type := .int, accessFlags := 25, slot := 6, constantValue := 0 }, { name := "BYTES", type := .int, accessFlags := 25, slot := 7, constantValue := 0 }, { name := "serialVersionUID", type := .long, accessFlags := 26, slot := 8, constantValue := 0 }]
  methods := #[k12m0]
  instanceTypes := #[.int]
  staticTypes := #[.int, .int, (.object "java/lang/Class"), (.array .char), (.array .byte), (.array .byte), .int, .int, .long]
  resolved := Array.replicate 453 none
  statics := none }

def pool13 : Array CpInfo := pool [(1, u "java/lang/Cloneable"), (0, .class_ 1), (0, u "java/lang/Object"), (0, .class_ 3)] 3

/-- java/lang/Cloneable -/
def k13 : Class := { plain "java/lang/Cloneable" (some 0) with
  accessFlags := 1537
  interfaces := #[]
  cf := some (fileOf pool13 2 #[] #[] 1537 4 #[] #[])
  fields := #[]
  methods := #[]
  instanceTypes := #[]
  staticTypes := #[]
  resolved := Array.replicate 8 none
  statics := none }

/-- the primitive byte -/
def k14 : Class := { plain "byte" none with kind := .primitive 'B', accessFlags := 0x411 }
/-- [B -/
def k15 : Class := { plain "[B" (some 0) with kind := .array 14 .byte, interfaces := #[13, 4], accessFlags := 1041 }

/-- the primitive int -/
def k16 : Class := { plain "int" none with kind := .primitive 'I', accessFlags := 0x411 }
/-- [I -/
def k17 : Class := { plain "[I" (some 0) with kind := .array 16 .int, interfaces := #[13, 4], accessFlags := 1041 }

/-- the primitive long -/
def k18 : Class := { plain "long" none with kind := .primitive 'J', accessFlags := 0x411 }
/-- [J -/
def k19 : Class := { plain "[J" (some 0) with kind := .array 18 .long, interfaces := #[13, 4], accessFlags := 1041 }

def heap : Heap := #[{ cls := 6, slots := #[.ref 2, .ref 3, .ref 4, .ref 5, .ref 6, .null, .null], vm := .statics 6 },
  { cls := 7, slots := #[.int 0, .int 5], vm := .statics 7 },
  { cls := 6, slots := #[.null, .int 0, .int 0, .null], vm := .none },
  { cls := 6, slots := #[.null, .int 1, .int 0, .null], vm := .none },
  { cls := 6, slots := #[.null, .int 2, .int 0, .null], vm := .none },
  { cls := 6, slots := #[.null, .int 3, .int 0, .null], vm := .none },
  { cls := 6, slots := #[.null, .int 4, .int 0, .null], vm := .none }]
def classes : Array Class := #[k0, k1, k2, k3, k4, k5, k6, k7, k8, k9, k10, k11, k12, k13, k14, k15, k16, k17, k18, k19]
def interned : List (Array UInt16 × Addr) := []
def slotsUsed : Nat := 29
def theMethod : MethodId := ⟨1, 2⟩
def args0 : Array Value := #[.int 5, .int 1, .long 7, .int 6, .int 8, .long 9]
def aboutOver (below : List Frame) : State where
  vm := { classes := classes, interned := interned.toArray }
  heap := heap
  slotsUsed := slotsUsed
  threads := #[{ frames := .invoking theMethod args0 :: below }]
def below0 : List Frame := [.native { method := ⟨0, 0⟩, args := #[] }]
def about1 : State := aboutOver below0
def p0 : Program := .bare "" "" ""
def e0 : Env := launch0.env 0 0 0
theorem w_frames : about1.frames = Frame.invoking theMethod args0 :: below0 := rfl
set_option maxRecDepth 65536 in
theorem w_args : argsFit about1.vm theMethod args0 = true := by decide +kernel
set_option maxRecDepth 65536 in
theorem w_heap : heapFits about1 = true := by decide +kernel
set_option maxRecDepth 65536 in
theorem w_runnable : about1.curStatus? = some .runnable := by decide +kernel
set_option maxRecDepth 65536 in
theorem w_alone : about1.alone = true := by decide +kernel
set_option maxRecDepth 65536 in
theorem w_named : about1.methodNamed? x = some theMethod := by decide +kernel
set_option maxRecDepth 65536 in
theorem w_hears : about1.hears theMethod below0 = true := by decide +kernel
set_option maxRecDepth 65536 in
theorem w_ripe : about1.ripe theMethod args0 below0 = true := by decide +kernel
theorem w_running : about1.status = .running := rfl
set_option maxRecDepth 65536 in
theorem w_room : about1.hasRoom e0.platform room_1 = true :=
  launch0.hasRoom_least _ room_1 (by decide +kernel) (by decide +kernel) (by decide +kernel) (by decide +kernel) (by decide +kernel) (by decide +kernel)
theorem allAtoms_all (ts : List Jvm.Cond) (a : Array Jvm.Value) (st : Jvm.State) : (allAtoms ts).before a st = ts.all (fun c => c.before a st) := by
  induction ts with
  | nil => rfl
  | cons c t ih =>
    show (Jvm.Cond.and c (allAtoms t)).before a st = _
    rw [Jvm.Cond.before_and, ih, List.all_cons]
def words1 : List Jvm.Cond := Jvm.Cond.code x code maxLocals ret :: tables_1
/-- a 'code' word, met by the world's own term for the bytes: nothing is compared byte by byte -/
theorem code_word {y : MethodName} {bytes : ByteArray} {mx : Nat} {rt : Option FieldType} {a : Array Value} {s : State} {m : MethodId} {meth : Method} {c : Code} (h1 : s.methodNamed? y = some m) (h2 : s.vm.method? m = some meth) (h3 : meth.code = some c) (h4 : c.code = bytes)
    (h5 : (c.maxLocals == mx && c.exceptionTable.isEmpty && decide (c.maxStack ≤ mostOperands) && decide (meth.sig.returnType = rt) && !meth.locks && decide (parseMethodDescriptor y.desc = some meth.sig)) = true) : (Jvm.Cond.code y bytes mx rt).before a s = true := by
  simp only [Bool.and_eq_true, beq_iff_eq, Bool.not_eq_true', decide_eq_true_eq] at h5
  obtain ⟨⟨⟨⟨⟨g1, g2⟩, g3⟩, g4⟩, g5⟩, g6⟩ := h5
  simp [Cond.before, Cond.holds, Cond.value, h1, h2, h3, h4, g1, g2, g3, g4, g5, g6]
def isCode : Jvm.Cond → Bool
  | .code _ _ _ _ => true
  | _ => false
theorem all_split {L : List Jvm.Cond} {P : Jvm.Cond → Bool} (h1 : L.all (fun c => isCode c || P c) = true) (h2 : ∀ c ∈ L.filter isCode, P c = true) : L.all P = true := by
  refine List.all_eq_true.mpr fun c hc => ?_
  have h := List.all_eq_true.mp h1 c hc
  rcases Bool.eq_false_or_eq_true (isCode c) with hi | hi
  · exact h2 c (List.mem_filter.mpr ⟨hc, hi⟩)
  · simpa [hi] using h
set_option maxRecDepth 65536 in
theorem w_c0 : (Jvm.Cond.code x code maxLocals ret).before args0 about1 = true := code_word (m := ⟨1, 2⟩) (meth := k1m2) (c := k1c2) (by decide +kernel) rfl rfl rfl (by decide +kernel)
set_option maxRecDepth 65536 in
theorem w_c1 : (Jvm.Cond.code ({ cls := "com/example/crackline/crackline/SeenValuesAddPinLaw", name := "kindOf", desc := "(I)Lcom/example/crackline/crackline/PriceKind;" } : Jvm.MethodName) method_2_code (1 : Nat) (Option.some (Jvm.ClassFile.FieldType.object "com/example/crackline/crackline/PriceKind"))).before args0 about1 = true := code_word (m := ⟨1, 1⟩) (meth := k1m1) (c := k1c1) (by decide +kernel) rfl rfl rfl (by decide +kernel)
set_option maxRecDepth 65536 in
theorem w_c2 : (Jvm.Cond.code ({ cls := "com/example/crackline/crackline/SeenValues", name := "<init>", desc := "()V" } : Jvm.MethodName) prog_41_method_1_code (1 : Nat) (Option.none : Option Jvm.ClassFile.FieldType)).before args0 about1 = true := code_word (m := ⟨7, 0⟩) (meth := k7m0) (c := k7c0) (by decide +kernel) rfl rfl rfl (by decide +kernel)
set_option maxRecDepth 65536 in
theorem w_c3 : (Jvm.Cond.code ({ cls := "java/lang/Object", name := "<init>", desc := "()V" } : Jvm.MethodName) object_method_1_code (1 : Nat) (Option.none : Option Jvm.ClassFile.FieldType)).before args0 about1 = true := code_word (m := ⟨0, 0⟩) (meth := k0m0) (c := k0c0) (by decide +kernel) rfl rfl rfl (by decide +kernel)
set_option maxRecDepth 65536 in
theorem w_c4 : (Jvm.Cond.code ({ cls := "com/example/crackline/crackline/SeenValues", name := "add", desc := "(ILcom/example/crackline/crackline/PriceKind;J)Z" } : Jvm.MethodName) prog_41_method_2_code (13 : Nat) (Option.some Jvm.ClassFile.FieldType.boolean)).before args0 about1 = true := code_word (m := ⟨7, 1⟩) (meth := k7m1) (c := k7c1) (by decide +kernel) rfl rfl rfl (by decide +kernel)
set_option maxRecDepth 65536 in
theorem w_c5 : (Jvm.Cond.code ({ cls := "java/lang/Math", name := "multiplyExact", desc := "(II)I" } : Jvm.MethodName) jdk_29_method_28_code (4 : Nat) (Option.some Jvm.ClassFile.FieldType.int)).before args0 about1 = true := code_word (m := ⟨8, 2⟩) (meth := k8m2) (c := k8c2) (by decide +kernel) rfl rfl rfl (by decide +kernel)
set_option maxRecDepth 65536 in
theorem w_c6 : (Jvm.Cond.code ({ cls := "java/lang/Enum", name := "ordinal", desc := "()I" } : Jvm.MethodName) jdk_37_method_2_code (1 : Nat) (Option.some Jvm.ClassFile.FieldType.int)).before args0 about1 = true := code_word (m := ⟨5, 0⟩) (meth := k5m0) (c := k5c0) (by decide +kernel) rfl rfl rfl (by decide +kernel)
set_option maxRecDepth 65536 in
theorem w_c7 : (Jvm.Cond.code ({ cls := "java/lang/Math", name := "addExact", desc := "(II)I" } : Jvm.MethodName) jdk_29_method_24_code (3 : Nat) (Option.some Jvm.ClassFile.FieldType.int)).before args0 about1 = true := code_word (m := ⟨8, 1⟩) (meth := k8m1) (c := k8c1) (by decide +kernel) rfl rfl rfl (by decide +kernel)
set_option maxRecDepth 65536 in
theorem w_c8 : (Jvm.Cond.code ({ cls := "java/lang/Math", name := "floorDiv", desc := "(JI)J" } : Jvm.MethodName) jdk_29_method_48_code (3 : Nat) (Option.some Jvm.ClassFile.FieldType.long)).before args0 about1 = true := code_word (m := ⟨8, 4⟩) (meth := k8m4) (c := k8c4) (by decide +kernel) rfl rfl rfl (by decide +kernel)
set_option maxRecDepth 65536 in
theorem w_c9 : (Jvm.Cond.code ({ cls := "java/lang/Math", name := "floorDiv", desc := "(JJ)J" } : Jvm.MethodName) jdk_29_method_49_code (6 : Nat) (Option.some Jvm.ClassFile.FieldType.long)).before args0 about1 = true := code_word (m := ⟨8, 5⟩) (meth := k8m5) (c := k8c5) (by decide +kernel) rfl rfl rfl (by decide +kernel)
set_option maxRecDepth 65536 in
theorem w_c10 : (Jvm.Cond.code ({ cls := "java/lang/Math", name := "toIntExact", desc := "(J)I" } : Jvm.MethodName) jdk_29_method_43_code (2 : Nat) (Option.some Jvm.ClassFile.FieldType.int)).before args0 about1 = true := code_word (m := ⟨8, 3⟩) (meth := k8m3) (c := k8c3) (by decide +kernel) rfl rfl rfl (by decide +kernel)
set_option maxRecDepth 65536 in
theorem w_c11 : (Jvm.Cond.code ({ cls := "java/lang/Math", name := "floorMod", desc := "(JI)I" } : Jvm.MethodName) jdk_29_method_51_code (3 : Nat) (Option.some Jvm.ClassFile.FieldType.int)).before args0 about1 = true := code_word (m := ⟨8, 6⟩) (meth := k8m6) (c := k8c6) (by decide +kernel) rfl rfl rfl (by decide +kernel)
set_option maxRecDepth 65536 in
theorem w_c12 : (Jvm.Cond.code ({ cls := "java/lang/Math", name := "floorMod", desc := "(JJ)J" } : Jvm.MethodName) jdk_29_method_52_code (6 : Nat) (Option.some Jvm.ClassFile.FieldType.long)).before args0 about1 = true := code_word (m := ⟨8, 7⟩) (meth := k8m7) (c := k8c7) (by decide +kernel) rfl rfl rfl (by decide +kernel)
set_option maxRecDepth 65536 in
theorem w_c13 : (Jvm.Cond.code ({ cls := "com/example/crackline/crackline/SeenValues", name := "slot", desc := "(J)I" } : Jvm.MethodName) prog_41_method_3_code (5 : Nat) (Option.some Jvm.ClassFile.FieldType.int)).before args0 about1 = true := code_word (m := ⟨7, 2⟩) (meth := k7m2) (c := k7c2) (by decide +kernel) rfl rfl rfl (by decide +kernel)
set_option maxRecDepth 65536 in
theorem w_c14 : (Jvm.Cond.code ({ cls := "java/lang/Long", name := "numberOfLeadingZeros", desc := "(J)I" } : Jvm.MethodName) jdk_35_method_48_code (3 : Nat) (Option.some Jvm.ClassFile.FieldType.int)).before args0 about1 = true := code_word (m := ⟨11, 0⟩) (meth := k11m0) (c := k11c0) (by decide +kernel) rfl rfl rfl (by decide +kernel)
set_option maxRecDepth 65536 in
theorem w_c15 : (Jvm.Cond.code ({ cls := "java/lang/Integer", name := "numberOfLeadingZeros", desc := "(I)I" } : Jvm.MethodName) jdk_33_method_47_code (2 : Nat) (Option.some Jvm.ClassFile.FieldType.int)).before args0 about1 = true := code_word (m := ⟨12, 0⟩) (meth := k12m0) (c := k12c0) (by decide +kernel) rfl rfl rfl (by decide +kernel)
def codes1 : List Jvm.Cond := [Jvm.Cond.code x code maxLocals ret, Jvm.Cond.code ({ cls := "com/example/crackline/crackline/SeenValuesAddPinLaw", name := "kindOf", desc := "(I)Lcom/example/crackline/crackline/PriceKind;" } : Jvm.MethodName) method_2_code (1 : Nat) (Option.some (Jvm.ClassFile.FieldType.object "com/example/crackline/crackline/PriceKind")), Jvm.Cond.code ({ cls := "com/example/crackline/crackline/SeenValues", name := "<init>", desc := "()V" } : Jvm.MethodName) prog_41_method_1_code (1 : Nat) (Option.none : Option Jvm.ClassFile.FieldType), Jvm.Cond.code ({ cls := "java/lang/Object", name := "<init>", desc := "()V" } : Jvm.MethodName) object_method_1_code (1 : Nat) (Option.none : Option Jvm.ClassFile.FieldType), Jvm.Cond.code ({ cls := "com/example/crackline/crackline/SeenValues", name := "add", desc := "(ILcom/example/crackline/crackline/PriceKind;J)Z" } : Jvm.MethodName) prog_41_method_2_code (13 : Nat) (Option.some Jvm.ClassFile.FieldType.boolean), Jvm.Cond.code ({ cls := "java/lang/Math", name := "multiplyExact", desc := "(II)I" } : Jvm.MethodName) jdk_29_method_28_code (4 : Nat) (Option.some Jvm.ClassFile.FieldType.int), Jvm.Cond.code ({ cls := "java/lang/Enum", name := "ordinal", desc := "()I" } : Jvm.MethodName) jdk_37_method_2_code (1 : Nat) (Option.some Jvm.ClassFile.FieldType.int), Jvm.Cond.code ({ cls := "java/lang/Math", name := "addExact", desc := "(II)I" } : Jvm.MethodName) jdk_29_method_24_code (3 : Nat) (Option.some Jvm.ClassFile.FieldType.int), Jvm.Cond.code ({ cls := "java/lang/Math", name := "floorDiv", desc := "(JI)J" } : Jvm.MethodName) jdk_29_method_48_code (3 : Nat) (Option.some Jvm.ClassFile.FieldType.long), Jvm.Cond.code ({ cls := "java/lang/Math", name := "floorDiv", desc := "(JJ)J" } : Jvm.MethodName) jdk_29_method_49_code (6 : Nat) (Option.some Jvm.ClassFile.FieldType.long), Jvm.Cond.code ({ cls := "java/lang/Math", name := "toIntExact", desc := "(J)I" } : Jvm.MethodName) jdk_29_method_43_code (2 : Nat) (Option.some Jvm.ClassFile.FieldType.int), Jvm.Cond.code ({ cls := "java/lang/Math", name := "floorMod", desc := "(JI)I" } : Jvm.MethodName) jdk_29_method_51_code (3 : Nat) (Option.some Jvm.ClassFile.FieldType.int), Jvm.Cond.code ({ cls := "java/lang/Math", name := "floorMod", desc := "(JJ)J" } : Jvm.MethodName) jdk_29_method_52_code (6 : Nat) (Option.some Jvm.ClassFile.FieldType.long), Jvm.Cond.code ({ cls := "com/example/crackline/crackline/SeenValues", name := "slot", desc := "(J)I" } : Jvm.MethodName) prog_41_method_3_code (5 : Nat) (Option.some Jvm.ClassFile.FieldType.int), Jvm.Cond.code ({ cls := "java/lang/Long", name := "numberOfLeadingZeros", desc := "(J)I" } : Jvm.MethodName) jdk_35_method_48_code (3 : Nat) (Option.some Jvm.ClassFile.FieldType.int), Jvm.Cond.code ({ cls := "java/lang/Integer", name := "numberOfLeadingZeros", desc := "(I)I" } : Jvm.MethodName) jdk_33_method_47_code (2 : Nat) (Option.some Jvm.ClassFile.FieldType.int)]
set_option maxRecDepth 65536 in
theorem codes_eq : words1.filter isCode = codes1 := rfl
theorem w_codes : ∀ c ∈ words1.filter isCode, c.before args0 about1 = true := by
  rw [codes_eq]
  intro c hc
  simp only [codes1, List.mem_cons, List.not_mem_nil, or_false] at hc
  rcases hc with rfl | rfl | rfl | rfl | rfl | rfl | rfl | rfl | rfl | rfl | rfl | rfl | rfl | rfl | rfl | rfl
  · exact w_c0
  · exact w_c1
  · exact w_c2
  · exact w_c3
  · exact w_c4
  · exact w_c5
  · exact w_c6
  · exact w_c7
  · exact w_c8
  · exact w_c9
  · exact w_c10
  · exact w_c11
  · exact w_c12
  · exact w_c13
  · exact w_c14
  · exact w_c15
set_option maxRecDepth 65536 in
theorem w_t1 : (words1.take 24).all (fun c => isCode c || c.before args0 about1) = true := by decide +kernel
set_option maxRecDepth 65536 in
theorem w_t2 : ((words1.drop 24).take 24).all (fun c => isCode c || c.before args0 about1) = true := by decide +kernel
set_option maxRecDepth 65536 in
theorem w_t3 : (((words1.drop 24).drop 24).take 24).all (fun c => isCode c || c.before args0 about1) = true := by decide +kernel
set_option maxRecDepth 65536 in
theorem w_t4 : (((words1.drop 24).drop 24).drop 24).all (fun c => isCode c || c.before args0 about1) = true := by decide +kernel
theorem w_tables : (allAtoms (Jvm.Cond.code x code maxLocals ret :: tables_1)).before args0 about1 = true := by
  rw [allAtoms_all]
  show words1.all (fun c => c.before args0 about1) = true
  refine all_split ?_ w_codes
  rw [← List.take_append_drop 24 words1, List.all_append, w_t1, ← List.take_append_drop 24 (words1.drop 24), List.all_append, w_t2, ← List.take_append_drop 24 ((words1.drop 24).drop 24), List.all_append, w_t3, w_t4]
  rfl
set_option maxRecDepth 65536 in
theorem w_case : (Jvm.Cond.and given_1 narrow_1).before args0 about1 = true := by decide +kernel
theorem w_applies : (headSpec (Jvm.Cond.code x code maxLocals ret :: tables_1) room_1).applies x e0.platform about1 = true :=
  (Spec.applies_iff w_frames).mpr ⟨w_running, w_runnable, w_alone, w_named, w_hears, w_ripe, w_room, w_tables⟩
theorem atStart : AtStart classFile x code maxLocals ret World_1 tables_1 room_1 Calls_1 rest_1 Pre_1 launch0 p0 e0 about1 theMethod args0 below0 :=
  ⟨lists_1, trivial, launch0.admits_env _ _ _, launch0.least_env, fairChoices_fair.cas, fairChoices_fair.clock, w_frames, w_args, w_heap, w_applies, trivial, trivial, w_case⟩
end start1
theorem witness_1 : WitnessClaimed_1 := ⟨start1.p0, start1.e0, start1.about1, start1.theMethod, start1.args0, start1.below0, start1.atStart⟩
end Jvm.Pilot.@@N@@
