import JvmDerived
import JvmDerived.Pilot.@@N@@Statement
import JvmDerived.Pilot.@@N@@Code
set_option linter.unusedVariables false
set_option linter.unusedSimpArgs false
@@BLOCK:LamKit.lean.txt@@
namespace Jvm.Pilot.@@N@@
open Jvm Jvm.ClassFile Sem Op Lib Jvm.Free Jvm.Stand Jvm.LawKit Jvm.RoadKit Bundle Jvm.Pilot.@@N@@.Jvm.D
theorem ow {Z : State} {a0 : Array Value} (hw : ∀ d ∈ tables_1, d.before a0 Z = true) {i : Nat} {d : Jvm.Cond} (h : tables_1[i]? = some d) : d.before a0 Z = true := hw d (List.mem_of_getElem? h)
theorem oLt {n m : Nat} (h : Nat.blt n m = true) : n < m := by simpa [Nat.blt_eq] using h
theorem oLe {n m : Nat} (h : Nat.ble n m = true) : n ≤ m := Nat.le_of_ble_eq_true h
theorem ogeI (x : Int32) : -2147483648 ≤ x.toInt := by have := Int32.le_toInt x; omega
theorem oltI' (x : Int32) : x.toInt < 2147483648 := by have := Int32.toInt_lt x; omega
theorem ogeL (x : Int64) : -9223372036854775808 ≤ x.toInt := by have := Int64.le_toInt x; omega
theorem oltL' (x : Int64) : x.toInt < 9223372036854775808 := by have := Int64.toInt_lt x; omega
theorem orI (x : Int32) : -2147483648 ≤ x.toInt ∧ x.toInt < 2147483648 := ⟨ogeI x, oltI' x⟩
theorem orL (x : Int64) : -9223372036854775808 ≤ x.toInt ∧ x.toInt < 9223372036854775808 := ⟨ogeL x, oltL' x⟩
theorem oiadd (x y : Int32) : ((x + y).toInt - (x.toInt + y.toInt)) % 4294967296 = 0 ∧ -2147483648 ≤ (x + y).toInt ∧ (x + y).toInt < 2147483648 := ⟨c_iadd x y, orI _⟩
theorem oisub (x y : Int32) : ((x - y).toInt - (x.toInt - y.toInt)) % 4294967296 = 0 ∧ -2147483648 ≤ (x - y).toInt ∧ (x - y).toInt < 2147483648 := ⟨c_isub x y, orI _⟩
theorem oladd (x y : Int64) : ((x + y).toInt - (x.toInt + y.toInt)) % 18446744073709551616 = 0 ∧ -9223372036854775808 ≤ (x + y).toInt ∧ (x + y).toInt < 9223372036854775808 := ⟨c_ladd x y, orL _⟩
theorem olsub (x y : Int64) : ((x - y).toInt - (x.toInt - y.toInt)) % 18446744073709551616 = 0 ∧ -9223372036854775808 ≤ (x - y).toInt ∧ (x - y).toInt < 9223372036854775808 := ⟨c_lsub x y, orL _⟩
theorem oltI {x y : Int32} (h : x < y) : x.toInt < y.toInt := Int32.lt_iff_toInt_lt.mp h
theorem oltL {x y : Int64} (h : x < y) : x.toInt < y.toInt := Int64.lt_iff_toInt_lt.mp h
theorem onltI {x y : Int32} (h : ¬ x < y) : y.toInt ≤ x.toInt := by rw [Int32.lt_iff_toInt_lt] at h; omega
theorem onltL {x y : Int64} (h : ¬ x < y) : y.toInt ≤ x.toInt := by rw [Int64.lt_iff_toInt_lt] at h; omega
theorem oeqI {x y : Int32} (h : x = y) : x.toInt = y.toInt := congrArg _ h
theorem oeqL {x y : Int64} (h : x = y) : x.toInt = y.toInt := congrArg _ h
theorem oneI {x y : Int32} (h : ¬ x = y) : x.toInt ≠ y.toInt := fun q => h (Int32.toInt_inj.mp q)
theorem oneL {x y : Int64} (h : ¬ x = y) : x.toInt ≠ y.toInt := fun q => h (Int64.toInt_inj.mp q)
theorem oltI_i {x y : Int32} (h : x.toInt < y.toInt) : x < y := Int32.lt_iff_toInt_lt.mpr h
theorem oltL_i {x y : Int64} (h : x.toInt < y.toInt) : x < y := Int64.lt_iff_toInt_lt.mpr h
theorem onltI_i {x y : Int32} (h : y.toInt ≤ x.toInt) : ¬ x < y := by rw [Int32.lt_iff_toInt_lt]; omega
theorem onltL_i {x y : Int64} (h : y.toInt ≤ x.toInt) : ¬ x < y := by rw [Int64.lt_iff_toInt_lt]; omega
theorem oeqI_i {x y : Int32} (h : x.toInt = y.toInt) : x = y := Int32.toInt_inj.mp h
theorem oeqL_i {x y : Int64} (h : x.toInt = y.toInt) : x = y := Int64.toInt_inj.mp h
theorem oneI_i {x y : Int32} (h : x.toInt ≠ y.toInt) : ¬ x = y := fun q => h (congrArg _ q)
theorem oneL_i {x y : Int64} (h : x.toInt ≠ y.toInt) : ¬ x = y := fun q => h (congrArg _ q)
theorem otoI {x y : Int32} (h : x.toInt = y.toInt) : x = y := Int32.toInt_inj.mp h
theorem otoL {x y : Int64} (h : x.toInt = y.toInt) : x = y := Int64.toInt_inj.mp h
theorem omaskI (x m : Int32) (k : Nat) (P : Int) (hk : k ≤ 31) (hm : m.toBitVec.toNat = 2 ^ k - 1) (hP : P = ((2 ^ k : Nat) : Int)) : (x &&& m).toInt = x.toInt % P := by rw [hP]; exact c_mask x m k hk hm
theorem omaskL (x m : Int64) (k : Nat) (P : Int) (hk : k ≤ 63) (hm : m.toBitVec.toNat = 2 ^ k - 1) (hP : P = ((2 ^ k : Nat) : Int)) : (x &&& m).toInt = x.toInt % P := by rw [hP]; exact c_maskL x m k hk hm
theorem oandI (x m : Int32) (hm : 0 ≤ m.toInt) : 0 ≤ (x &&& m).toInt ∧ (x &&& m).toInt ≤ m.toInt := c_and x m hm
theorem oishr (x q : Int32) (k : Nat) (P : Int) (hk : q.toBitVec.toNat % 32 = k) (hP : P = ((2 ^ k : Nat) : Int)) : (x >>> (q &&& 31)).toInt = x.toInt / P := by rw [hP]; exact c_ishr x q k hk
theorem oishl (x q : Int32) (k : Nat) (P : Int) (hk : q.toBitVec.toNat % 32 = k) (hP : P = ((2 ^ k : Nat) : Int)) : ((x <<< (q &&& 31)).toInt - x.toInt * P) % 4294967296 = 0 := by rw [hP]; exact c_ishl x q k hk
theorem oiushr (x q : Int32) (k : Nat) (P : Int) (hk : q.toBitVec.toNat % 32 = k) (hP : P = ((2 ^ k : Nat) : Int)) (h0 : 0 < k) : ((x.toUInt32 >>> (q &&& 31).toUInt32).toInt32).toInt = (x.toInt % 4294967296) / P := by rw [hP]; exact c_iushr x q k hk h0
theorem olshr (x : Int64) (q : Int32) (k : Nat) (P : Int) (hk : q.toBitVec.toNat % 64 = k) (hP : P = ((2 ^ k : Nat) : Int)) : (x >>> (q &&& 0x3f).toInt64).toInt = x.toInt / P := by rw [hP]; exact c_lshr x q k hk
theorem olshl (x : Int64) (q : Int32) (k : Nat) (P : Int) (hk : q.toBitVec.toNat % 64 = k) (hP : P = ((2 ^ k : Nat) : Int)) : ((x <<< (q &&& 0x3f).toInt64).toInt - x.toInt * P) % 18446744073709551616 = 0 := by rw [hP]; exact c_lshl x q k hk
theorem olushr (x : Int64) (q : Int32) (k : Nat) (P : Int) (hk : q.toBitVec.toNat % 64 = k) (hP : P = ((2 ^ k : Nat) : Int)) (h0 : 0 < k) : ((x.toUInt64 >>> (q &&& 0x3f).toInt64.toUInt64).toInt64).toInt = (x.toInt % 18446744073709551616) / P := by rw [hP]; exact c_lushr x q k hk h0
theorem oirem (x y : Int32) (d : Int) (hy : y.toInt = d) (h0 : 0 < d) (h1 : y ≠ -1) : (0 ≤ x.toInt → (x % y).toInt = x.toInt % d) ∧ (x.toInt < 0 → (x % y).toInt = -((-x.toInt) % d)) := c_irem x y d hy
theorem olrem (x y : Int64) (d : Int) (hy : y.toInt = d) (h0 : 0 < d) (h1 : y ≠ -1) : (0 ≤ x.toInt → (x - (x / y) * y).toInt = x.toInt % d) ∧ (x.toInt < 0 → (x - (x / y) * y).toInt = -((-x.toInt) % d)) := c_lrem x y d hy
theorem oidiv (x y : Int32) (d : Int) (hy : y.toInt = d) (h0 : 0 < d) (h1 : y ≠ -1) : (0 ≤ x.toInt → (x / y).toInt = x.toInt / d) ∧ (x.toInt < 0 → (x / y).toInt = -((-x.toInt) / d)) := c_idiv x y d hy h1
theorem oldiv (x y : Int64) (d : Int) (hy : y.toInt = d) (h0 : 0 < d) (h1 : y ≠ -1) : (0 ≤ x.toInt → (x / y).toInt = x.toInt / d) ∧ (x.toInt < 0 → (x / y).toInt = -((-x.toInt) / d)) := c_ldiv x y d hy h1
theorem olremV (x y : Int64) : 0 ≤ x.toInt → 0 < y.toInt → 0 ≤ (x - (x / y) * y).toInt ∧ (x - (x / y) * y).toInt < y.toInt ∧ (x - (x / y) * y).toInt ≤ x.toInt := by
  intro h1 h2
  rw [(c_lrem x y y.toInt rfl).1 h1]
  exact ⟨Int.emod_nonneg _ (by omega), Int.emod_lt_of_pos _ h2, by have q1 := Int.mul_ediv_add_emod x.toInt y.toInt; have q2 := Int.mul_nonneg (Int.le_of_lt h2) (Int.ediv_nonneg h1 (Int.le_of_lt h2)); omega⟩
theorem oiremV (x y : Int32) : 0 ≤ x.toInt → 0 < y.toInt → 0 ≤ (x % y).toInt ∧ (x % y).toInt < y.toInt ∧ (x % y).toInt ≤ x.toInt := by
  intro h1 h2
  rw [(c_irem x y y.toInt rfl).1 h1]
  exact ⟨Int.emod_nonneg _ (by omega), Int.emod_lt_of_pos _ h2, by have q1 := Int.mul_ediv_add_emod x.toInt y.toInt; have q2 := Int.mul_nonneg (Int.le_of_lt h2) (Int.ediv_nonneg h1 (Int.le_of_lt h2)); omega⟩
abbrev o0 : Value := .int (0 : Int32)
abbrev oFK : Type := String × String × String
abbrev oD : Type := Sum (FieldType × List Value) (String × List (oFK × Value))
abbrev oA (ty : FieldType) (vs : List Value) : oD := .inl (ty, vs)
abbrev oO (C : String) (fs : List (oFK × Value)) : oD := .inr (C, fs)
abbrev oDs : Type := List (Addr × oD)
def oSl (Z : State) (f : oFK) : Nat := Jvm.RoadKit.slotOf Z f.1 f.2.1 f.2.2
def oIs (Z : State) (h : Heap) (a : Addr) (d : oD) : Prop :=
  match d with
  | .inl x => ∃ c : Cell, Arr Z h a c x.1 ∧ c.slots = x.2.toArray ∧ (∀ C, x.1 = .object C → Ovr Z c.cls C) ∧ Exa Z h a ("[" ++ x.1.toString) ∧ ∀ v ∈ x.2, fits x.1 v = true
  | .inr x => Exa Z h a x.1 ∧ (∀ f ∈ x.2, Fld Z h a f.1.1 f.1.2.1 f.1.2.2 f.2) ∧ x.2.Pairwise (fun f g => oSl Z f.1 ≠ oSl Z g.1)
def oHP (Z : State) (h0 : Heap) (lo : Nat) (h : Heap) (ds : oDs) : Prop := (Ext h0 h ∧ lo ≤ h.size) ∧ (ds.map (·.1)).Nodup ∧ ∀ x ∈ ds, h0.size ≤ x.1 ∧ oIs Z h x.1 x.2
theorem oExt.refl (h : Heap) : Ext h h := ⟨Nat.le_refl _, fun _ _ q => q⟩
theorem oExt.trans {h h' h'' : Heap} (E : Ext h h') (E' : Ext h' h'') : Ext h h'' := ⟨Nat.le_trans E.1 E'.1, fun a c q => E'.2 a c (E.2 a c q)⟩
theorem oHP.nil (Z : State) (h : Heap) : oHP Z h h.size h [] := ⟨⟨oExt.refl h, Nat.le_refl _⟩, List.nodup_nil, fun x hx => nomatch hx⟩
theorem oIs.lt {Z : State} {h : Heap} {a : Addr} {d : oD} (I : oIs Z h a d) : a < h.size := by
  cases d with
  | inl x => obtain ⟨c, A, -⟩ := I; exact A.lt
  | inr x => exact I.1.lt
theorem oIs.ext {Z : State} {h h' : Heap} {a : Addr} {d : oD} (E : Ext h h') (I : oIs Z h a d) : oIs Z h' a d := by
  cases d with
  | inl x => obtain ⟨c, A, r1, r2, r3, r4⟩ := I; exact ⟨c, A.ext E, r1, r2, r3.ext E, r4⟩
  | inr x => exact ⟨I.1.ext E, fun f hf => (I.2.1 f hf).ext E, I.2.2⟩
theorem oIs.other {Z : State} {h h' : Heap} {a b : Addr} {sl : Nat} {v : Value} {d : oD} (W : Wr h h' a sl v) (ne : b ≠ a) (I : oIs Z h b d) : oIs Z h' b d := by
  cases d with
  | inl x => obtain ⟨c, A, r1, r2, r3, r4⟩ := I; exact ⟨c, A.other W ne, r1, r2, r3.wr W, r4⟩
  | inr x => exact ⟨I.1.wr W, fun f hf => (I.2.1 f hf).other W (Or.inl ne), I.2.2⟩
theorem oHP.at {Z : State} {h0 h : Heap} {lo : Nat} {ds : oDs} (H : oHP Z h0 lo h ds) {i : Nat} {a : Addr} {d : oD} (hi : ds[i]? = some (a, d)) : h0.size ≤ a ∧ oIs Z h a d := H.2.2 (a, d) (List.mem_of_getElem? hi)
theorem oHP.more {Z : State} {h0 h h' : Heap} {lo : Nat} {ds : oDs} (H : oHP Z h0 lo h ds) (E : Ext h h') {lo' : Nat} (hlo : lo' ≤ h'.size) : oHP Z h0 lo' h' ds := ⟨⟨oExt.trans H.1.1 E, hlo⟩, H.2.1, fun x hx => ⟨(H.2.2 x hx).1, (H.2.2 x hx).2.ext E⟩⟩
theorem oHP.new {Z : State} {h0 h h' : Heap} {lo : Nat} {ds : oDs} (H : oHP Z h0 lo h ds) (E : Ext h h') {d : oD} (I : oIs Z h' h.size d) : oHP Z h0 lo h' ((h.size, d) :: ds) := by
  refine ⟨⟨oExt.trans H.1.1 E, Nat.le_trans H.1.2 E.1⟩, ?_, ?_⟩
  · rw [List.map_cons, List.nodup_cons]
    refine ⟨fun q => ?_, H.2.1⟩
    obtain ⟨x, hx, e⟩ := List.mem_map.mp q
    exact absurd e (Nat.ne_of_lt (H.2.2 x hx).2.lt)
  · intro x hx
    rcases List.mem_cons.mp hx with rfl | hx
    · exact ⟨H.1.1.1, I⟩
    · exact ⟨(H.2.2 x hx).1, (H.2.2 x hx).2.ext E⟩
theorem oHP.ne {Z : State} {h0 h : Heap} {lo : Nat} {ds : oDs} (H : oHP Z h0 lo h ds) {i j : Nat} {x y : Addr × oD} (hi : ds[i]? = some x) (hj : ds[j]? = some y) (ne : i ≠ j) : x.1 ≠ y.1 := by
  intro q
  have h1 : (ds.map (·.1))[i]? = some x.1 := by rw [List.getElem?_map, hi]; rfl
  have h2 : (ds.map (·.1))[j]? = some x.1 := by rw [List.getElem?_map, hj, q]; rfl
  obtain ⟨l1, e1⟩ := List.getElem?_eq_some_iff.mp h1
  obtain ⟨l2, e2⟩ := List.getElem?_eq_some_iff.mp h2
  have P := List.pairwise_iff_getElem.mp (List.nodup_iff_pairwise_ne.mp H.2.1)
  rcases Nat.lt_or_gt_of_ne ne with r | r
  · exact P i j l1 l2 r (e1.trans e2.symm)
  · exact P j i l2 l1 r (e2.trans e1.symm)
theorem oHP.wr {Z : State} {h0 h h' : Heap} {lo : Nat} {ds : oDs} (H : oHP Z h0 lo h ds) {i : Nat} {a : Addr} {d d' : oD} {sl : Nat} {v : Value} (hi : ds[i]? = some (a, d)) (W : Wr h h' a sl v) (I : oIs Z h' a d') : oHP Z h0 lo h' (ds.set i (a, d')) := by
  have hl : i < ds.length := (List.getElem?_eq_some_iff.mp hi).1
  have ha := (H.at hi).1
  refine ⟨?_, ?_, ?_⟩
  · obtain ⟨cell, w1, w2, w3, w4⟩ := W
    refine ⟨⟨by rw [w4]; simpa using H.1.1.1, fun b cb hb => ?_⟩, by rw [w4]; simpa using H.1.2⟩
    have hb' := H.1.1.2 b cb hb
    have hlt : b < h0.size := (Array.getElem?_eq_some_iff.mp hb).1
    rw [w4, Array.getElem?_setIfInBounds_ne (Nat.ne_of_gt (Nat.lt_of_lt_of_le hlt ha))]
    exact hb'
  · have e : (ds.set i (a, d')).map (·.1) = ds.map (·.1) := by
      rw [List.map_set]
      have h1 : (ds.map (·.1))[i]? = some a := by rw [List.getElem?_map, hi]; rfl
      obtain ⟨l1, e1⟩ := List.getElem?_eq_some_iff.mp h1
      show (ds.map (·.1)).set i a = _
      rw [← e1, List.set_getElem_self]
    rw [e]; exact H.2.1
  · intro x hx
    obtain ⟨j, hj⟩ := List.mem_iff_getElem?.mp hx
    rw [List.getElem?_set] at hj
    by_cases q : i = j
    · rw [if_pos q, if_pos hl] at hj
      cases hj; exact ⟨ha, I⟩
    · rw [if_neg q] at hj
      have ne : x.1 ≠ a := H.ne hj hi (Ne.symm q)
      obtain ⟨g1, g2⟩ := H.2.2 x (List.mem_of_getElem? hj)
      exact ⟨g1, g2.other W ne⟩
def oB (p : Program) (l : Launch) (e : Env) (R : Room) (s : State) (m : MethodId) (args : Array Value) (below : List Frame) (meth : Method) (c : Code) (Z : State) (h0 : Heap) (lo : Nat) (T : State) (cells slots : Nat) (ds : oDs) : Prop :=
  p.tables.exec = Jvm.exec ∧ Z.Warmed39 s.vm ∧ meth.locks = false ∧ ∃ locs, Stand p l e R s m args below meth c T locs cells slots ∧ Fr h0.size locs ∧ oHP Z h0 lo T.heap ds
def oWin (p : Program) (e : Env) (below : List Frame) (Z : State) (h0 : Heap) (Q : Option Value → oDs → Prop) (E : Outcome → State → List Loc → Prop) (S : State) : Prop :=
  ∃ U o, Steps p.tables e below S U ∧ U.status = .running ∧ Ended U below o ∧ ∃ v L, o = .returned v ∧ (Fr h0.size L ∧ ∃ lo ds, oHP Z h0 lo U.heap ds ∧ Q v ds) ∧ E o U L
/-- the end of a walk, said of the walk's start: the plain frame; the wide one (a String constant may have been interned) -/
def oFE (s : State) (lo kc ks : Nat) (o : Outcome) (U : State) (L : List Loc) : Prop := lo ≤ U.heap.size ∧ FrameEnd s o U L kc ks
def oFW (s : State) (kc ks : Nat) (o : Outcome) (U : State) (L : List Loc) : Prop := ReturnedEndW s o U L kc ks
def oMet (l : Launch) (Z : State) (h0 : Heap) (lo : Nat) (y : MethodName) (bytes : ByteArray) (maxL : Nat) (ret : Option FieldType) (ws : List Jvm.Cond) (rm : Room) (as : Array Value) (ds : oDs) (Q : Option Value → oDs → Prop) : Prop :=
  ∀ h, oHP Z h0 lo h ds → MetFree l y (head1 (Jvm.Cond.code y bytes maxL ret :: ws) rm) (fun a U => a = as ∧ Z.Warmed39 U.vm ∧ U.heap = h) (fun _ _ _ _ _ => True) (fun _ U o U' => ∃ v L, o = .returned v ∧ (Fr h0.size L ∧ ∃ ds', oHP Z h0 lo U'.heap ds' ∧ Q v ds') ∧ FrameEnd U o U' L rm.cells rm.slots)
def oMetW (l : Launch) (Z : State) (h0 : Heap) (lo : Nat) (y : MethodName) (bytes : ByteArray) (maxL : Nat) (ret : Option FieldType) (ws : List Jvm.Cond) (rm : Room) (as : Array Value) (ds : oDs) (Q : Option Value → oDs → Prop) : Prop :=
  ∀ h, oHP Z h0 lo h ds → MetFree l y (head1 (Jvm.Cond.code y bytes maxL ret :: ws) rm) (fun a U => a = as ∧ Z.Warmed39 U.vm ∧ U.heap = h) (fun _ _ _ _ _ => True) (fun _ U o U' => ∃ v L, o = .returned v ∧ (Fr h0.size L ∧ ∃ lo' ds', oHP Z h0 lo' U'.heap ds' ∧ Q v ds') ∧ ReturnedEndW U o U' L rm.cells rm.slots)
theorem oMet.of_body {l : Launch} {Z : State} {h0 : Heap} {lo : Nat} {y : MethodName} {bytes : ByteArray} {maxL : Nat} {ret : Option FieldType} {ws : List Jvm.Cond} {rm : Room} {as : Array Value} {ds : oDs} {Q : Option Value → oDs → Prop} (hpl : plainFor y = true)
    (body : ∀ p e s m below meth c T, oB p l e rm s m as below meth c Z h0 lo T 0 0 ds → c.code = bytes → c.maxLocals = maxL → s.vm.findClass y.cls = some m.cls → meth.name = y.name → meth.sig.returnType = ret → oWin p e below Z h0 Q (oFE s lo rm.cells rm.slots) (T.setTop (entryFrame m as maxL))) : oMet l Z h0 lo y bytes maxL ret ws rm as ds Q := by
  intro h hH
  refine MetFree.of_bodySF hpl hisR ?_
  intro p e s m args below meth c s₁ Bd hml hP hK
  obtain ⟨rfl, hZ, hh⟩ := hP
  have e0 : s₁.heap = h := by rw [← hh, Bd.state]; rfl
  obtain ⟨U, o, h1, h2, h3, v, L, h4, ⟨h5, lo', ds', h6, h7⟩, h8, h9⟩ := body p e s m below meth c s₁ ⟨Bd.exec, hZ, Bd.notSynchronized, [], Stand.of_body Bd, Fr.nil _, e0 ▸ hH⟩ Bd.bytes hml (findClass_of_methodNamed Bd.named) (name_of_methodNamed Bd.named Bd.method).1 Bd.returns
  exact ⟨U, o, h1, h2, h3, v, L, h4, ⟨h5, ds', ⟨⟨h6.1.1, h8⟩, h6.2⟩, h7⟩, h9⟩
theorem oMetW.of_body {l : Launch} {Z : State} {h0 : Heap} {lo : Nat} {y : MethodName} {bytes : ByteArray} {maxL : Nat} {ret : Option FieldType} {ws : List Jvm.Cond} {rm : Room} {as : Array Value} {ds : oDs} {Q : Option Value → oDs → Prop} (hpl : plainFor y = true)
    (body : ∀ p e s m below meth c T (vm : Vm), oB p l e rm (s.setVm vm) m as below meth c Z h0 lo T 0 0 ds → s.Since vm lo → c.code = bytes → c.maxLocals = maxL → (s.setVm vm).vm.findClass y.cls = some m.cls → meth.name = y.name → meth.sig.returnType = ret → oWin p e below Z h0 Q (oFW s rm.cells rm.slots) (T.setTop (entryFrame m as maxL))) : oMetW l Z h0 lo y bytes maxL ret ws rm as ds Q := by
  intro h hH
  refine MetFree.of_bodySF hpl hisR ?_
  intro p e s m args below meth c s₁ Bd hml hP hK
  obtain ⟨rfl, hZ, hh⟩ := hP
  have e0 : s₁.heap = h := by rw [← hh, Bd.state]; rfl
  exact body p e s m below meth c s₁ s.vm ⟨Bd.exec, hZ, Bd.notSynchronized, [], Stand.of_body Bd, Fr.nil _, e0 ▸ hH⟩ ((State.WarmedH.refl s).since lo) Bd.bytes hml (findClass_of_methodNamed Bd.named) (name_of_methodNamed Bd.named Bd.method).1 Bd.returns
section Wlaws
variable {p : Program} {l : Launch} {e : Env} {R : Room} {s : State} {m : MethodId} {args : Array Value} {below : List Frame} {meth : Method} {c : Code} {Z : State} {a0 : Array Value} {h0 : Heap} {lo : Nat} {T : State} {cells slots : Nat} {ds ds' : oDs} {Q : Option Value → oDs → Prop} {E : Outcome → State → List Loc → Prop} {kc ks : Nat} {pc pc' : Nat} {ls ls' : Array Slot} {st : List Value}
theorem oWin.step {S S' : State} (w : oWin p e below Z h0 Q E S') (k : ∀ t, Steps p.tables e below S' t → Steps p.tables e below S t) : oWin p e below Z h0 Q E S := by
  obtain ⟨U, o, h1, r⟩ := w; exact ⟨U, o, k _ h1, r⟩
theorem oWin.steps {S S' : State} (w : oWin p e below Z h0 Q E S') (k : Steps p.tables e below S S') : oWin p e below Z h0 Q E S := by
  obtain ⟨U, o, h1, r⟩ := w; exact ⟨U, o, k.trans h1, r⟩
theorem W_entry {as : Array Value} {maxL : Nat} (h : entryFrame m as maxL = mkF m 0 ls []) (w : oWin p e below Z h0 Q E (T.setTop (mkF m 0 ls []))) : oWin p e below Z h0 Q E (T.setTop (entryFrame m as maxL)) := by rw [h]; exact w
theorem W_iload (B : oB p l e R s m args below meth c Z h0 lo T cells slots ds) {i : Nat} {v : Int32} (hd : decode c.code pc = .ok (.iload i, 2)) (hp : pc + 2 = pc') (hl : ls[i]? = some (.val (.int v))) (w : oWin p e below Z h0 Q E (T.setTop (mkF m pc' ls (.int v :: st)))) : oWin p e below Z h0 Q E (T.setTop (mkF m pc ls (st))) := by
  subst hp
  obtain ⟨hx, hZ, hlk, locs, X, N, H⟩ := B
  exact w.step fun t k => XS.iload X.here hx rfl hd hl k
theorem W_iloadN (B : oB p l e R s m args below meth c Z h0 lo T cells slots ds) {i : Fin 4} {v : Int32} (hd : decode c.code pc = .ok (.iload_n i, 1)) (hp : pc + 1 = pc') (hl : ls[i.val]? = some (.val (.int v))) (w : oWin p e below Z h0 Q E (T.setTop (mkF m pc' ls (.int v :: st)))) : oWin p e below Z h0 Q E (T.setTop (mkF m pc ls (st))) := by
  subst hp
  obtain ⟨hx, hZ, hlk, locs, X, N, H⟩ := B
  exact w.step fun t k => XS.iloadN X.here hx rfl hd hl k
theorem W_istore (B : oB p l e R s m args below meth c Z h0 lo T cells slots ds) {i : Nat} {x v : Int32} (hd : decode c.code pc = .ok (.istore i, 2)) (hp : pc + 2 = pc') (hz : x = v) (hl : storeLocals ls i (.int v) = some ls') (w : oWin p e below Z h0 Q E (T.setTop (mkF m pc' ls' (st)))) : oWin p e below Z h0 Q E (T.setTop (mkF m pc ls (.int x :: st))) := by
  subst hp hz
  obtain ⟨hx, hZ, hlk, locs, X, N, H⟩ := B
  exact w.step fun t k => XS.istore X.here hx rfl hd rfl hl k
theorem W_istoreN (B : oB p l e R s m args below meth c Z h0 lo T cells slots ds) {i : Fin 4} {x v : Int32} (hd : decode c.code pc = .ok (.istore_n i, 1)) (hp : pc + 1 = pc') (hz : x = v) (hl : storeLocals ls i.val (.int v) = some ls') (w : oWin p e below Z h0 Q E (T.setTop (mkF m pc' ls' (st)))) : oWin p e below Z h0 Q E (T.setTop (mkF m pc ls (.int x :: st))) := by
  subst hp hz
  obtain ⟨hx, hZ, hlk, locs, X, N, H⟩ := B
  exact w.step fun t k => XS.istoreN X.here hx rfl hd rfl hl k
theorem W_iadd (B : oB p l e R s m args below meth c Z h0 lo T cells slots ds) {x y z : Int32} (hd : decode c.code pc = .ok (.iadd, 1)) (hp : pc + 1 = pc') (hz : x + y = z) (w : oWin p e below Z h0 Q E (T.setTop (mkF m pc' ls (.int z :: st)))) : oWin p e below Z h0 Q E (T.setTop (mkF m pc ls (.int y :: .int x :: st))) := by
  subst hp hz
  obtain ⟨hx, hZ, hlk, locs, X, N, H⟩ := B
  exact w.step fun t k => XS.iadd X.here hx rfl hd rfl k
theorem W_isub (B : oB p l e R s m args below meth c Z h0 lo T cells slots ds) {x y z : Int32} (hd : decode c.code pc = .ok (.isub, 1)) (hp : pc + 1 = pc') (hz : x - y = z) (w : oWin p e below Z h0 Q E (T.setTop (mkF m pc' ls (.int z :: st)))) : oWin p e below Z h0 Q E (T.setTop (mkF m pc ls (.int y :: .int x :: st))) := by
  subst hp hz
  obtain ⟨hx, hZ, hlk, locs, X, N, H⟩ := B
  exact w.step fun t k => XS.isub X.here hx rfl hd rfl k
theorem W_imul (B : oB p l e R s m args below meth c Z h0 lo T cells slots ds) {x y z : Int32} (hd : decode c.code pc = .ok (.imul, 1)) (hp : pc + 1 = pc') (hz : x * y = z) (w : oWin p e below Z h0 Q E (T.setTop (mkF m pc' ls (.int z :: st)))) : oWin p e below Z h0 Q E (T.setTop (mkF m pc ls (.int y :: .int x :: st))) := by
  subst hp hz
  obtain ⟨hx, hZ, hlk, locs, X, N, H⟩ := B
  exact w.step fun t k => XS.imul X.here hx rfl hd rfl k
theorem W_iand (B : oB p l e R s m args below meth c Z h0 lo T cells slots ds) {x y z : Int32} (hd : decode c.code pc = .ok (.iand, 1)) (hp : pc + 1 = pc') (hz : x &&& y = z) (w : oWin p e below Z h0 Q E (T.setTop (mkF m pc' ls (.int z :: st)))) : oWin p e below Z h0 Q E (T.setTop (mkF m pc ls (.int y :: .int x :: st))) := by
  subst hp hz
  obtain ⟨hx, hZ, hlk, locs, X, N, H⟩ := B
  exact w.step fun t k => XS.iand X.here hx rfl hd rfl k
theorem W_ior (B : oB p l e R s m args below meth c Z h0 lo T cells slots ds) {x y z : Int32} (hd : decode c.code pc = .ok (.ior, 1)) (hp : pc + 1 = pc') (hz : x ||| y = z) (w : oWin p e below Z h0 Q E (T.setTop (mkF m pc' ls (.int z :: st)))) : oWin p e below Z h0 Q E (T.setTop (mkF m pc ls (.int y :: .int x :: st))) := by
  subst hp hz
  obtain ⟨hx, hZ, hlk, locs, X, N, H⟩ := B
  exact w.step fun t k => XS.ior X.here hx rfl hd rfl k
theorem W_ixor (B : oB p l e R s m args below meth c Z h0 lo T cells slots ds) {x y z : Int32} (hd : decode c.code pc = .ok (.ixor, 1)) (hp : pc + 1 = pc') (hz : x ^^^ y = z) (w : oWin p e below Z h0 Q E (T.setTop (mkF m pc' ls (.int z :: st)))) : oWin p e below Z h0 Q E (T.setTop (mkF m pc ls (.int y :: .int x :: st))) := by
  subst hp hz
  obtain ⟨hx, hZ, hlk, locs, X, N, H⟩ := B
  exact w.step fun t k => XS.ixor X.here hx rfl hd rfl k
theorem W_ineg (B : oB p l e R s m args below meth c Z h0 lo T cells slots ds) {x z : Int32} (hd : decode c.code pc = .ok (.ineg, 1)) (hp : pc + 1 = pc') (hz : -x = z) (w : oWin p e below Z h0 Q E (T.setTop (mkF m pc' ls (.int z :: st)))) : oWin p e below Z h0 Q E (T.setTop (mkF m pc ls (.int x :: st))) := by
  subst hp hz
  obtain ⟨hx, hZ, hlk, locs, X, N, H⟩ := B
  exact w.step fun t k => XS.ineg X.here hx rfl hd rfl k
theorem W_idiv (B : oB p l e R s m args below meth c Z h0 lo T cells slots ds) {x y z : Int32} (hd : decode c.code pc = .ok (.idiv, 1)) (hp : pc + 1 = pc') (hy : y ≠ 0) (hz : x / y = z) (w : oWin p e below Z h0 Q E (T.setTop (mkF m pc' ls (.int z :: st)))) : oWin p e below Z h0 Q E (T.setTop (mkF m pc ls (.int y :: .int x :: st))) := by
  subst hp hz
  obtain ⟨hx, hZ, hlk, locs, X, N, H⟩ := B
  exact w.step fun t k => XS.idiv X.here hx rfl hd rfl hy k
theorem W_lload (B : oB p l e R s m args below meth c Z h0 lo T cells slots ds) {i : Nat} {v : Int64} (hd : decode c.code pc = .ok (.lload i, 2)) (hp : pc + 2 = pc') (hl : ls[i]? = some (.val (.long v))) (w : oWin p e below Z h0 Q E (T.setTop (mkF m pc' ls (.long v :: st)))) : oWin p e below Z h0 Q E (T.setTop (mkF m pc ls (st))) := by
  subst hp
  obtain ⟨hx, hZ, hlk, locs, X, N, H⟩ := B
  exact w.step fun t k => XS.lload X.here hx rfl hd hl k
theorem W_lloadN (B : oB p l e R s m args below meth c Z h0 lo T cells slots ds) {i : Fin 4} {v : Int64} (hd : decode c.code pc = .ok (.lload_n i, 1)) (hp : pc + 1 = pc') (hl : ls[i.val]? = some (.val (.long v))) (w : oWin p e below Z h0 Q E (T.setTop (mkF m pc' ls (.long v :: st)))) : oWin p e below Z h0 Q E (T.setTop (mkF m pc ls (st))) := by
  subst hp
  obtain ⟨hx, hZ, hlk, locs, X, N, H⟩ := B
  exact w.step fun t k => XS.lloadN X.here hx rfl hd hl k
theorem W_lstore (B : oB p l e R s m args below meth c Z h0 lo T cells slots ds) {i : Nat} {x v : Int64} (hd : decode c.code pc = .ok (.lstore i, 2)) (hp : pc + 2 = pc') (hz : x = v) (hl : storeLocals ls i (.long v) = some ls') (w : oWin p e below Z h0 Q E (T.setTop (mkF m pc' ls' (st)))) : oWin p e below Z h0 Q E (T.setTop (mkF m pc ls (.long x :: st))) := by
  subst hp hz
  obtain ⟨hx, hZ, hlk, locs, X, N, H⟩ := B
  exact w.step fun t k => XS.lstore X.here hx rfl hd rfl hl k
theorem W_lstoreN (B : oB p l e R s m args below meth c Z h0 lo T cells slots ds) {i : Fin 4} {x v : Int64} (hd : decode c.code pc = .ok (.lstore_n i, 1)) (hp : pc + 1 = pc') (hz : x = v) (hl : storeLocals ls i.val (.long v) = some ls') (w : oWin p e below Z h0 Q E (T.setTop (mkF m pc' ls' (st)))) : oWin p e below Z h0 Q E (T.setTop (mkF m pc ls (.long x :: st))) := by
  subst hp hz
  obtain ⟨hx, hZ, hlk, locs, X, N, H⟩ := B
  exact w.step fun t k => XS.lstoreN X.here hx rfl hd rfl hl k
theorem W_ladd (B : oB p l e R s m args below meth c Z h0 lo T cells slots ds) {x y z : Int64} (hd : decode c.code pc = .ok (.ladd, 1)) (hp : pc + 1 = pc') (hz : x + y = z) (w : oWin p e below Z h0 Q E (T.setTop (mkF m pc' ls (.long z :: st)))) : oWin p e below Z h0 Q E (T.setTop (mkF m pc ls (.long y :: .long x :: st))) := by
  subst hp hz
  obtain ⟨hx, hZ, hlk, locs, X, N, H⟩ := B
  exact w.step fun t k => XS.ladd X.here hx rfl hd rfl k
theorem W_lsub (B : oB p l e R s m args below meth c Z h0 lo T cells slots ds) {x y z : Int64} (hd : decode c.code pc = .ok (.lsub, 1)) (hp : pc + 1 = pc') (hz : x - y = z) (w : oWin p e below Z h0 Q E (T.setTop (mkF m pc' ls (.long z :: st)))) : oWin p e below Z h0 Q E (T.setTop (mkF m pc ls (.long y :: .long x :: st))) := by
  subst hp hz
  obtain ⟨hx, hZ, hlk, locs, X, N, H⟩ := B
  exact w.step fun t k => XS.lsub X.here hx rfl hd rfl k
theorem W_lmul (B : oB p l e R s m args below meth c Z h0 lo T cells slots ds) {x y z : Int64} (hd : decode c.code pc = .ok (.lmul, 1)) (hp : pc + 1 = pc') (hz : x * y = z) (w : oWin p e below Z h0 Q E (T.setTop (mkF m pc' ls (.long z :: st)))) : oWin p e below Z h0 Q E (T.setTop (mkF m pc ls (.long y :: .long x :: st))) := by
  subst hp hz
  obtain ⟨hx, hZ, hlk, locs, X, N, H⟩ := B
  exact w.step fun t k => XS.lmul X.here hx rfl hd rfl k
theorem W_land (B : oB p l e R s m args below meth c Z h0 lo T cells slots ds) {x y z : Int64} (hd : decode c.code pc = .ok (.land, 1)) (hp : pc + 1 = pc') (hz : x &&& y = z) (w : oWin p e below Z h0 Q E (T.setTop (mkF m pc' ls (.long z :: st)))) : oWin p e below Z h0 Q E (T.setTop (mkF m pc ls (.long y :: .long x :: st))) := by
  subst hp hz
  obtain ⟨hx, hZ, hlk, locs, X, N, H⟩ := B
  exact w.step fun t k => XS.land X.here hx rfl hd rfl k
theorem W_lor (B : oB p l e R s m args below meth c Z h0 lo T cells slots ds) {x y z : Int64} (hd : decode c.code pc = .ok (.lor, 1)) (hp : pc + 1 = pc') (hz : x ||| y = z) (w : oWin p e below Z h0 Q E (T.setTop (mkF m pc' ls (.long z :: st)))) : oWin p e below Z h0 Q E (T.setTop (mkF m pc ls (.long y :: .long x :: st))) := by
  subst hp hz
  obtain ⟨hx, hZ, hlk, locs, X, N, H⟩ := B
  exact w.step fun t k => XS.lor X.here hx rfl hd rfl k
theorem W_lxor (B : oB p l e R s m args below meth c Z h0 lo T cells slots ds) {x y z : Int64} (hd : decode c.code pc = .ok (.lxor, 1)) (hp : pc + 1 = pc') (hz : x ^^^ y = z) (w : oWin p e below Z h0 Q E (T.setTop (mkF m pc' ls (.long z :: st)))) : oWin p e below Z h0 Q E (T.setTop (mkF m pc ls (.long y :: .long x :: st))) := by
  subst hp hz
  obtain ⟨hx, hZ, hlk, locs, X, N, H⟩ := B
  exact w.step fun t k => XS.lxor X.here hx rfl hd rfl k
theorem W_lneg (B : oB p l e R s m args below meth c Z h0 lo T cells slots ds) {x z : Int64} (hd : decode c.code pc = .ok (.lneg, 1)) (hp : pc + 1 = pc') (hz : -x = z) (w : oWin p e below Z h0 Q E (T.setTop (mkF m pc' ls (.long z :: st)))) : oWin p e below Z h0 Q E (T.setTop (mkF m pc ls (.long x :: st))) := by
  subst hp hz
  obtain ⟨hx, hZ, hlk, locs, X, N, H⟩ := B
  exact w.step fun t k => XS.lneg X.here hx rfl hd rfl k
theorem W_ldiv (B : oB p l e R s m args below meth c Z h0 lo T cells slots ds) {x y z : Int64} (hd : decode c.code pc = .ok (.ldiv, 1)) (hp : pc + 1 = pc') (hy : y ≠ 0) (hz : x / y = z) (w : oWin p e below Z h0 Q E (T.setTop (mkF m pc' ls (.long z :: st)))) : oWin p e below Z h0 Q E (T.setTop (mkF m pc ls (.long y :: .long x :: st))) := by
  subst hp hz
  obtain ⟨hx, hZ, hlk, locs, X, N, H⟩ := B
  exact w.step fun t k => XS.ldiv X.here hx rfl hd rfl hy k
theorem W_irem (B : oB p l e R s m args below meth c Z h0 lo T cells slots ds) {x y z : Int32} (hd : decode c.code pc = .ok (.irem, 1)) (hp : pc + 1 = pc') (hy : y ≠ 0) (hz : x % y = z) (w : oWin p e below Z h0 Q E (T.setTop (mkF m pc' ls (.int z :: st)))) : oWin p e below Z h0 Q E (T.setTop (mkF m pc ls (.int y :: .int x :: st))) := by
  subst hp hz
  obtain ⟨hx, hZ, hlk, locs, X, N, H⟩ := B
  exact w.step fun t k => iremM X hx rfl hd rfl hy k
theorem W_lrem (B : oB p l e R s m args below meth c Z h0 lo T cells slots ds) {x y z : Int64} (hd : decode c.code pc = .ok (.lrem, 1)) (hp : pc + 1 = pc') (hy : y ≠ 0) (hz : x - (x / y) * y = z) (w : oWin p e below Z h0 Q E (T.setTop (mkF m pc' ls (.long z :: st)))) : oWin p e below Z h0 Q E (T.setTop (mkF m pc ls (.long y :: .long x :: st))) := by
  subst hp hz
  obtain ⟨hx, hZ, hlk, locs, X, N, H⟩ := B
  exact w.step fun t k => XS.lrem X.here hx rfl hd rfl hy k
theorem W_ishl (B : oB p l e R s m args below meth c Z h0 lo T cells slots ds) {x y z : Int32} (hd : decode c.code pc = .ok (.ishl, 1)) (hp : pc + 1 = pc') (hz : x <<< (y &&& 31) = z) (w : oWin p e below Z h0 Q E (T.setTop (mkF m pc' ls (.int z :: st)))) : oWin p e below Z h0 Q E (T.setTop (mkF m pc ls (.int y :: .int x :: st))) := by
  subst hp hz
  obtain ⟨hx, hZ, hlk, locs, X, N, H⟩ := B
  exact w.step fun t k => XS.ishl X.here hx rfl hd rfl k
theorem W_ishr (B : oB p l e R s m args below meth c Z h0 lo T cells slots ds) {x y z : Int32} (hd : decode c.code pc = .ok (.ishr, 1)) (hp : pc + 1 = pc') (hz : x >>> (y &&& 31) = z) (w : oWin p e below Z h0 Q E (T.setTop (mkF m pc' ls (.int z :: st)))) : oWin p e below Z h0 Q E (T.setTop (mkF m pc ls (.int y :: .int x :: st))) := by
  subst hp hz
  obtain ⟨hx, hZ, hlk, locs, X, N, H⟩ := B
  exact w.step fun t k => XS.ishr X.here hx rfl hd rfl k
theorem W_iushr (B : oB p l e R s m args below meth c Z h0 lo T cells slots ds) {x y z : Int32} (hd : decode c.code pc = .ok (.iushr, 1)) (hp : pc + 1 = pc') (hz : (x.toUInt32 >>> (y &&& 31).toUInt32).toInt32 = z) (w : oWin p e below Z h0 Q E (T.setTop (mkF m pc' ls (.int z :: st)))) : oWin p e below Z h0 Q E (T.setTop (mkF m pc ls (.int y :: .int x :: st))) := by
  subst hp hz
  obtain ⟨hx, hZ, hlk, locs, X, N, H⟩ := B
  exact w.step fun t k => XS.iushr X.here hx rfl hd rfl k
theorem W_lshl (B : oB p l e R s m args below meth c Z h0 lo T cells slots ds) {x : Int64} {y : Int32} {z : Int64} (hd : decode c.code pc = .ok (.lshl, 1)) (hp : pc + 1 = pc') (hz : x <<< (y &&& 0x3f).toInt64 = z) (w : oWin p e below Z h0 Q E (T.setTop (mkF m pc' ls (.long z :: st)))) : oWin p e below Z h0 Q E (T.setTop (mkF m pc ls (.int y :: .long x :: st))) := by
  subst hp hz
  obtain ⟨hx, hZ, hlk, locs, X, N, H⟩ := B
  exact w.step fun t k => XS.lshl X.here hx rfl hd rfl k
theorem W_lshr (B : oB p l e R s m args below meth c Z h0 lo T cells slots ds) {x : Int64} {y : Int32} {z : Int64} (hd : decode c.code pc = .ok (.lshr, 1)) (hp : pc + 1 = pc') (hz : x >>> (y &&& 0x3f).toInt64 = z) (w : oWin p e below Z h0 Q E (T.setTop (mkF m pc' ls (.long z :: st)))) : oWin p e below Z h0 Q E (T.setTop (mkF m pc ls (.int y :: .long x :: st))) := by
  subst hp hz
  obtain ⟨hx, hZ, hlk, locs, X, N, H⟩ := B
  exact w.step fun t k => XS.lshr X.here hx rfl hd rfl k
theorem W_lushr (B : oB p l e R s m args below meth c Z h0 lo T cells slots ds) {x : Int64} {y : Int32} {z : Int64} (hd : decode c.code pc = .ok (.lushr, 1)) (hp : pc + 1 = pc') (hz : (x.toUInt64 >>> (y &&& 0x3f).toInt64.toUInt64).toInt64 = z) (w : oWin p e below Z h0 Q E (T.setTop (mkF m pc' ls (.long z :: st)))) : oWin p e below Z h0 Q E (T.setTop (mkF m pc ls (.int y :: .long x :: st))) := by
  subst hp hz
  obtain ⟨hx, hZ, hlk, locs, X, N, H⟩ := B
  exact w.step fun t k => XS.lushr X.here hx rfl hd rfl k
theorem W_i2b (B : oB p l e R s m args below meth c Z h0 lo T cells slots ds) {x : Int32} {z : Int32} (hd : decode c.code pc = .ok (.i2b, 1)) (hp : pc + 1 = pc') (hz : x.toInt8.toInt32 = z) (w : oWin p e below Z h0 Q E (T.setTop (mkF m pc' ls (.int z :: st)))) : oWin p e below Z h0 Q E (T.setTop (mkF m pc ls (.int x :: st))) := by
  subst hp hz
  obtain ⟨hx, hZ, hlk, locs, X, N, H⟩ := B
  exact w.step fun t k => XS.i2b X.here hx rfl hd rfl k
theorem W_i2c (B : oB p l e R s m args below meth c Z h0 lo T cells slots ds) {x : Int32} {z : Int32} (hd : decode c.code pc = .ok (.i2c, 1)) (hp : pc + 1 = pc') (hz : x.toUInt32.toUInt16.toUInt32.toInt32 = z) (w : oWin p e below Z h0 Q E (T.setTop (mkF m pc' ls (.int z :: st)))) : oWin p e below Z h0 Q E (T.setTop (mkF m pc ls (.int x :: st))) := by
  subst hp hz
  obtain ⟨hx, hZ, hlk, locs, X, N, H⟩ := B
  exact w.step fun t k => XS.i2c X.here hx rfl hd rfl k
theorem W_i2s (B : oB p l e R s m args below meth c Z h0 lo T cells slots ds) {x : Int32} {z : Int32} (hd : decode c.code pc = .ok (.i2s, 1)) (hp : pc + 1 = pc') (hz : x.toInt16.toInt32 = z) (w : oWin p e below Z h0 Q E (T.setTop (mkF m pc' ls (.int z :: st)))) : oWin p e below Z h0 Q E (T.setTop (mkF m pc ls (.int x :: st))) := by
  subst hp hz
  obtain ⟨hx, hZ, hlk, locs, X, N, H⟩ := B
  exact w.step fun t k => XS.i2s X.here hx rfl hd rfl k
theorem W_i2l (B : oB p l e R s m args below meth c Z h0 lo T cells slots ds) {x : Int32} {z : Int64} (hd : decode c.code pc = .ok (.i2l, 1)) (hp : pc + 1 = pc') (hz : x.toInt64 = z) (w : oWin p e below Z h0 Q E (T.setTop (mkF m pc' ls (.long z :: st)))) : oWin p e below Z h0 Q E (T.setTop (mkF m pc ls (.int x :: st))) := by
  subst hp hz
  obtain ⟨hx, hZ, hlk, locs, X, N, H⟩ := B
  exact w.step fun t k => XS.i2l X.here hx rfl hd rfl k
theorem W_l2i (B : oB p l e R s m args below meth c Z h0 lo T cells slots ds) {x : Int64} {z : Int32} (hd : decode c.code pc = .ok (.l2i, 1)) (hp : pc + 1 = pc') (hz : x.toInt32 = z) (w : oWin p e below Z h0 Q E (T.setTop (mkF m pc' ls (.int z :: st)))) : oWin p e below Z h0 Q E (T.setTop (mkF m pc ls (.long x :: st))) := by
  subst hp hz
  obtain ⟨hx, hZ, hlk, locs, X, N, H⟩ := B
  exact w.step fun t k => XS.l2i X.here hx rfl hd rfl k
theorem W_iconst (B : oB p l e R s m args below meth c Z h0 lo T cells slots ds) {i : Int} {z : Int32} (hd : decode c.code pc = .ok (.iconst i, 1)) (hp : pc + 1 = pc') (hz : Int32.ofInt i = z) (w : oWin p e below Z h0 Q E (T.setTop (mkF m pc' ls (.int z :: st)))) : oWin p e below Z h0 Q E (T.setTop (mkF m pc ls (st))) := by
  subst hp hz
  obtain ⟨hx, hZ, hlk, locs, X, N, H⟩ := B
  exact w.step fun t k => XS.iconst X.here hx rfl hd k
theorem W_bipush (B : oB p l e R s m args below meth c Z h0 lo T cells slots ds) {i : Int} {z : Int32} (hd : decode c.code pc = .ok (.bipush i, 2)) (hp : pc + 2 = pc') (hz : (Int8.ofInt i).toInt32 = z) (w : oWin p e below Z h0 Q E (T.setTop (mkF m pc' ls (.int z :: st)))) : oWin p e below Z h0 Q E (T.setTop (mkF m pc ls (st))) := by
  subst hp hz
  obtain ⟨hx, hZ, hlk, locs, X, N, H⟩ := B
  exact w.step fun t k => XS.bipush X.here hx rfl hd k
theorem W_sipush (B : oB p l e R s m args below meth c Z h0 lo T cells slots ds) {i : Int} {z : Int32} (hd : decode c.code pc = .ok (.sipush i, 3)) (hp : pc + 3 = pc') (hz : (Int16.ofInt i).toInt32 = z) (w : oWin p e below Z h0 Q E (T.setTop (mkF m pc' ls (.int z :: st)))) : oWin p e below Z h0 Q E (T.setTop (mkF m pc ls (st))) := by
  subst hp hz
  obtain ⟨hx, hZ, hlk, locs, X, N, H⟩ := B
  exact w.step fun t k => XS.sipush X.here hx rfl hd k
theorem W_lconst (B : oB p l e R s m args below meth c Z h0 lo T cells slots ds) {i : Fin 2} {z : Int64} (hd : decode c.code pc = .ok (.lconst i, 1)) (hp : pc + 1 = pc') (hz : Int64.ofNat i = z) (w : oWin p e below Z h0 Q E (T.setTop (mkF m pc' ls (.long z :: st)))) : oWin p e below Z h0 Q E (T.setTop (mkF m pc ls (st))) := by
  subst hp hz
  obtain ⟨hx, hZ, hlk, locs, X, N, H⟩ := B
  exact w.step fun t k => XS.lconst X.here hx rfl hd k
theorem W_aconstNull (B : oB p l e R s m args below meth c Z h0 lo T cells slots ds)  (hd : decode c.code pc = .ok (.aconst_null, 1)) (hp : pc + 1 = pc')  (w : oWin p e below Z h0 Q E (T.setTop (mkF m pc' ls (.null :: st)))) : oWin p e below Z h0 Q E (T.setTop (mkF m pc ls (st))) := by
  subst hp
  obtain ⟨hx, hZ, hlk, locs, X, N, H⟩ := B
  exact w.step fun t k => XS.aconstNull X.here hx rfl hd k
theorem W_aload (B : oB p l e R s m args below meth c Z h0 lo T cells slots ds) {i : Nat} {v : Value} (hd : decode c.code pc = .ok (.aload i, 2)) (hp : pc + 2 = pc') (hl : ls[i]? = some (.val v)) (hv : v.isRef = true) (w : oWin p e below Z h0 Q E (T.setTop (mkF m pc' ls (v :: st)))) : oWin p e below Z h0 Q E (T.setTop (mkF m pc ls (st))) := by
  subst hp
  obtain ⟨hx, hZ, hlk, locs, X, N, H⟩ := B
  exact w.step fun t k => XS.aload X.here hx rfl hd hl hv k
theorem W_aloadN (B : oB p l e R s m args below meth c Z h0 lo T cells slots ds) {i : Fin 4} {v : Value} (hd : decode c.code pc = .ok (.aload_n i, 1)) (hp : pc + 1 = pc') (hl : ls[i.val]? = some (.val v)) (hv : v.isRef = true) (w : oWin p e below Z h0 Q E (T.setTop (mkF m pc' ls (v :: st)))) : oWin p e below Z h0 Q E (T.setTop (mkF m pc ls (st))) := by
  subst hp
  obtain ⟨hx, hZ, hlk, locs, X, N, H⟩ := B
  exact w.step fun t k => XS.aloadN X.here hx rfl hd hl hv k
theorem W_astore (B : oB p l e R s m args below meth c Z h0 lo T cells slots ds) {i : Nat} {x : Value} (hd : decode c.code pc = .ok (.astore i, 2)) (hp : pc + 2 = pc') (hv : x.isRef = true) (hl : storeLocals ls i x = some ls') (w : oWin p e below Z h0 Q E (T.setTop (mkF m pc' ls' (st)))) : oWin p e below Z h0 Q E (T.setTop (mkF m pc ls (x :: st))) := by
  subst hp
  obtain ⟨hx, hZ, hlk, locs, X, N, H⟩ := B
  exact w.step fun t k => XS.astore X.here hx rfl hd rfl hv hl k
theorem W_astoreN (B : oB p l e R s m args below meth c Z h0 lo T cells slots ds) {i : Fin 4} {x : Value} (hd : decode c.code pc = .ok (.astore_n i, 1)) (hp : pc + 1 = pc') (hv : x.isRef = true) (hl : storeLocals ls i.val x = some ls') (w : oWin p e below Z h0 Q E (T.setTop (mkF m pc' ls' (st)))) : oWin p e below Z h0 Q E (T.setTop (mkF m pc ls (x :: st))) := by
  subst hp
  obtain ⟨hx, hZ, hlk, locs, X, N, H⟩ := B
  exact w.step fun t k => XS.astoreN X.here hx rfl hd rfl hv hl k
theorem W_dup (B : oB p l e R s m args below meth c Z h0 lo T cells slots ds) {x : Value} (hd : decode c.code pc = .ok (.dup, 1)) (hp : pc + 1 = pc') (hc : x.category = 1) (w : oWin p e below Z h0 Q E (T.setTop (mkF m pc' ls (x :: x :: st)))) : oWin p e below Z h0 Q E (T.setTop (mkF m pc ls (x :: st))) := by
  subst hp
  obtain ⟨hx, hZ, hlk, locs, X, N, H⟩ := B
  exact w.step fun t k => XS.dup X.here hx rfl hd rfl hc k
theorem W_pop (B : oB p l e R s m args below meth c Z h0 lo T cells slots ds) {x : Value} (hd : decode c.code pc = .ok (.pop, 1)) (hp : pc + 1 = pc') (hc : x.category = 1) (w : oWin p e below Z h0 Q E (T.setTop (mkF m pc' ls (st)))) : oWin p e below Z h0 Q E (T.setTop (mkF m pc ls (x :: st))) := by
  subst hp
  obtain ⟨hx, hZ, hlk, locs, X, N, H⟩ := B
  exact w.step fun t k => XS.pop X.here hx rfl hd rfl hc k
theorem W_dupX1 (B : oB p l e R s m args below meth c Z h0 lo T cells slots ds) {x y : Value} (hd : decode c.code pc = .ok (.dup_x1, 1)) (hp : pc + 1 = pc') (hc : x.category = 1) (hc2 : y.category = 1) (w : oWin p e below Z h0 Q E (T.setTop (mkF m pc' ls (x :: y :: x :: st)))) : oWin p e below Z h0 Q E (T.setTop (mkF m pc ls (x :: y :: st))) := by
  subst hp
  obtain ⟨hx, hZ, hlk, locs, X, N, H⟩ := B
  exact w.step fun t k => XS.dupX1 X.here hx rfl hd rfl hc hc2 k
theorem W_dup2 (B : oB p l e R s m args below meth c Z h0 lo T cells slots ds) {x y : Value} (hd : decode c.code pc = .ok (.dup2, 1)) (hp : pc + 1 = pc') (hc : x.category = 1) (hc2 : y.category = 1) (w : oWin p e below Z h0 Q E (T.setTop (mkF m pc' ls (x :: y :: x :: y :: st)))) : oWin p e below Z h0 Q E (T.setTop (mkF m pc ls (x :: y :: st))) := by
  subst hp
  obtain ⟨hx, hZ, hlk, locs, X, N, H⟩ := B
  refine w.step fun t k => ?_
  show Steps p.tables e below (T.setTop { method := m, pc := pc, locals := ls, stack := x :: y :: st, locked := none }) _
  jvm_step X.here [X.here.top, hx, hd, hc, hc2]
  exact k
theorem W_iinc (B : oB p l e R s m args below meth c Z h0 lo T cells slots ds) {i : Nat} {d : Int} {x z : Int32} (hd : decode c.code pc = .ok (.iinc i d, 3)) (hp : pc + 3 = pc') (hl : ls[i]? = some (.val (.int x))) (hz : x + Int32.ofInt d = z) (hl' : storeLocals ls i (.int z) = some ls') (w : oWin p e below Z h0 Q E (T.setTop (mkF m pc' ls' (st)))) : oWin p e below Z h0 Q E (T.setTop (mkF m pc ls (st))) := by
  subst hp hz
  obtain ⟨hx, hZ, hlk, locs, X, N, H⟩ := B
  exact w.step fun t k => XS.iinc X.here hx rfl hd hl hl' k
theorem W_goto (B : oB p l e R s m args below meth c Z h0 lo T cells slots ds) {o : Int} (hd : decode c.code pc = .ok (.goto o, 3)) (ho : 0 ≤ (pc : Int) + o) (hp : ((pc : Int) + o).toNat = pc') (w : oWin p e below Z h0 Q E (T.setTop (mkF m pc' ls st))) : oWin p e below Z h0 Q E (T.setTop (mkF m pc ls st)) := by
  obtain ⟨hx, hZ, hlk, locs, X, N, H⟩ := B
  exact w.step fun t k => XS.goto X.here hx rfl rfl hd ho hp k
theorem W_icmpY (B : oB p l e R s m args below meth c Z h0 lo T cells slots ds) {cd : ClassFile.Cond} {x y : Int32} {o : Int} (hd : decode c.code pc = .ok (.if_icmp cd o, 3)) (ho : 0 ≤ (pc : Int) + o) (hp : ((pc : Int) + o).toNat = pc') (hc : if_icmp.holds cd x y = true) (w : oWin p e below Z h0 Q E (T.setTop (mkF m pc' ls st))) : oWin p e below Z h0 Q E (T.setTop (mkF m pc ls (.int y :: .int x :: st))) := by
  obtain ⟨hx, hZ, hlk, locs, X, N, H⟩ := B
  exact w.step fun t k => XS.icmpYes X.here hx rfl rfl hd rfl hc ho hp k
theorem W_icmpN (B : oB p l e R s m args below meth c Z h0 lo T cells slots ds) {cd : ClassFile.Cond} {x y : Int32} {o : Int} (hd : decode c.code pc = .ok (.if_icmp cd o, 3)) (hp : pc + 3 = pc') (hc : if_icmp.holds cd x y = false) (w : oWin p e below Z h0 Q E (T.setTop (mkF m pc' ls st))) : oWin p e below Z h0 Q E (T.setTop (mkF m pc ls (.int y :: .int x :: st))) := by
  subst hp
  obtain ⟨hx, hZ, hlk, locs, X, N, H⟩ := B
  exact w.step fun t k => XS.icmpNo X.here hx rfl hd rfl hc k
theorem W_ifY (B : oB p l e R s m args below meth c Z h0 lo T cells slots ds) {cd : ClassFile.Cond} {x : Int32} {o : Int} (hd : decode c.code pc = .ok (.ifCond cd o, 3)) (ho : 0 ≤ (pc : Int) + o) (hp : ((pc : Int) + o).toNat = pc') (hc : if_icmp.holds cd x 0 = true) (w : oWin p e below Z h0 Q E (T.setTop (mkF m pc' ls st))) : oWin p e below Z h0 Q E (T.setTop (mkF m pc ls (.int x :: st))) := by
  obtain ⟨hx, hZ, hlk, locs, X, N, H⟩ := B
  exact w.step fun t k => XS.ifYes X.here hx rfl rfl hd rfl ((if0 _ _).trans hc) ho hp k
theorem W_ifN (B : oB p l e R s m args below meth c Z h0 lo T cells slots ds) {cd : ClassFile.Cond} {x : Int32} {o : Int} (hd : decode c.code pc = .ok (.ifCond cd o, 3)) (hp : pc + 3 = pc') (hc : if_icmp.holds cd x 0 = false) (w : oWin p e below Z h0 Q E (T.setTop (mkF m pc' ls st))) : oWin p e below Z h0 Q E (T.setTop (mkF m pc ls (.int x :: st))) := by
  subst hp
  obtain ⟨hx, hZ, hlk, locs, X, N, H⟩ := B
  exact w.step fun t k => XS.ifNo X.here hx rfl hd rfl ((if0 _ _).trans hc) k
theorem W_icmp_eq (B : oB p l e R s m args below meth c Z h0 lo T cells slots ds) {x y : Int32} {o : Int} {pt : Nat} (hd : decode c.code pc = .ok (.if_icmp .eq o, 3)) (ho : 0 ≤ (pc : Int) + o) (ht : ((pc : Int) + o).toNat = pt) (hp : pc + 3 = pc') (w1 : x = y → oWin p e below Z h0 Q E (T.setTop (mkF m pt ls st))) (w2 : ¬ x = y → oWin p e below Z h0 Q E (T.setTop (mkF m pc' ls st))) : oWin p e below Z h0 Q E (T.setTop (mkF m pc ls (.int y :: .int x :: st))) := by
  by_cases h : x = y
  · exact W_icmpY B hd ho ht (teq h).1 (w1 h)
  · exact W_icmpN B hd hp (feq h).1 (w2 h)
theorem W_if_eq (B : oB p l e R s m args below meth c Z h0 lo T cells slots ds) {x : Int32} {o : Int} {pt : Nat} (hd : decode c.code pc = .ok (.ifCond .eq o, 3)) (ho : 0 ≤ (pc : Int) + o) (ht : ((pc : Int) + o).toNat = pt) (hp : pc + 3 = pc') (w1 : x = 0 → oWin p e below Z h0 Q E (T.setTop (mkF m pt ls st))) (w2 : ¬ x = 0 → oWin p e below Z h0 Q E (T.setTop (mkF m pc' ls st))) : oWin p e below Z h0 Q E (T.setTop (mkF m pc ls (.int x :: st))) := by
  by_cases h : x = 0
  · exact W_ifY B hd ho ht (teq h).1 (w1 h)
  · exact W_ifN B hd hp (feq h).1 (w2 h)
theorem W_lcmpY_eq (B : oB p l e R s m args below meth c Z h0 lo T cells slots ds) {x y : Int64} {o : Int} (hd : decode c.code pc = .ok (.lcmp, 1)) (hd' : decode c.code (pc + 1) = .ok (.ifCond .eq o, 3)) (ho : 0 ≤ ((pc + 1 : Nat) : Int) + o) (ht : (((pc + 1 : Nat) : Int) + o).toNat = pc') (hc : x = y) (w : oWin p e below Z h0 Q E (T.setTop (mkF m pc' ls st))) : oWin p e below Z h0 Q E (T.setTop (mkF m pc ls (.long y :: .long x :: st))) := by
  have w' := W_ifY (x := lcmpV x y) (st := st) B hd' ho ht (by have h : lcmpV x y = 0 := (lc_eq x y).mpr hc; exact (teq h).1) w
  obtain ⟨hx, hZ, hlk, locs, X, N, H⟩ := B
  exact w'.step fun t k => XS.lcmp X.here hx rfl hd rfl (by show Steps p.tables e below (T.setTop (mkF m (pc + 1) ls (.int (lcmpW x y) :: st))) t; rw [lcW]; exact k)
theorem W_lcmpN_eq (B : oB p l e R s m args below meth c Z h0 lo T cells slots ds) {x y : Int64} {o : Int} (hd : decode c.code pc = .ok (.lcmp, 1)) (hd' : decode c.code (pc + 1) = .ok (.ifCond .eq o, 3)) (hp : pc + 1 + 3 = pc') (hc : ¬ x = y) (w : oWin p e below Z h0 Q E (T.setTop (mkF m pc' ls st))) : oWin p e below Z h0 Q E (T.setTop (mkF m pc ls (.long y :: .long x :: st))) := by
  have w' := W_ifN (x := lcmpV x y) (st := st) B hd' hp (by have h : ¬ lcmpV x y = 0 := fun q => hc ((lc_eq x y).mp q); exact (feq h).1) w
  obtain ⟨hx, hZ, hlk, locs, X, N, H⟩ := B
  exact w'.step fun t k => XS.lcmp X.here hx rfl hd rfl (by show Steps p.tables e below (T.setTop (mkF m (pc + 1) ls (.int (lcmpW x y) :: st))) t; rw [lcW]; exact k)
theorem W_lcmp_eq (B : oB p l e R s m args below meth c Z h0 lo T cells slots ds) {x y : Int64} {o : Int} {pt : Nat} (hd : decode c.code pc = .ok (.lcmp, 1)) (hd' : decode c.code (pc + 1) = .ok (.ifCond .eq o, 3)) (ho : 0 ≤ ((pc + 1 : Nat) : Int) + o) (ht : (((pc + 1 : Nat) : Int) + o).toNat = pt) (hp : pc + 1 + 3 = pc') (w1 : x = y → oWin p e below Z h0 Q E (T.setTop (mkF m pt ls st))) (w2 : ¬ x = y → oWin p e below Z h0 Q E (T.setTop (mkF m pc' ls st))) : oWin p e below Z h0 Q E (T.setTop (mkF m pc ls (.long y :: .long x :: st))) := by
  by_cases h : x = y
  · exact W_lcmpY_eq B hd hd' ho ht h (w1 h)
  · exact W_lcmpN_eq B hd hd' hp h (w2 h)
theorem W_icmp_ne (B : oB p l e R s m args below meth c Z h0 lo T cells slots ds) {x y : Int32} {o : Int} {pt : Nat} (hd : decode c.code pc = .ok (.if_icmp .ne o, 3)) (ho : 0 ≤ (pc : Int) + o) (ht : ((pc : Int) + o).toNat = pt) (hp : pc + 3 = pc') (w1 : ¬ x = y → oWin p e below Z h0 Q E (T.setTop (mkF m pt ls st))) (w2 : x = y → oWin p e below Z h0 Q E (T.setTop (mkF m pc' ls st))) : oWin p e below Z h0 Q E (T.setTop (mkF m pc ls (.int y :: .int x :: st))) := by
  by_cases h : x = y
  · exact W_icmpN B hd hp (teq h).2 (w2 h)
  · exact W_icmpY B hd ho ht (feq h).2 (w1 h)
theorem W_if_ne (B : oB p l e R s m args below meth c Z h0 lo T cells slots ds) {x : Int32} {o : Int} {pt : Nat} (hd : decode c.code pc = .ok (.ifCond .ne o, 3)) (ho : 0 ≤ (pc : Int) + o) (ht : ((pc : Int) + o).toNat = pt) (hp : pc + 3 = pc') (w1 : ¬ x = 0 → oWin p e below Z h0 Q E (T.setTop (mkF m pt ls st))) (w2 : x = 0 → oWin p e below Z h0 Q E (T.setTop (mkF m pc' ls st))) : oWin p e below Z h0 Q E (T.setTop (mkF m pc ls (.int x :: st))) := by
  by_cases h : x = 0
  · exact W_ifN B hd hp (teq h).2 (w2 h)
  · exact W_ifY B hd ho ht (feq h).2 (w1 h)
theorem W_lcmpY_ne (B : oB p l e R s m args below meth c Z h0 lo T cells slots ds) {x y : Int64} {o : Int} (hd : decode c.code pc = .ok (.lcmp, 1)) (hd' : decode c.code (pc + 1) = .ok (.ifCond .ne o, 3)) (ho : 0 ≤ ((pc + 1 : Nat) : Int) + o) (ht : (((pc + 1 : Nat) : Int) + o).toNat = pc') (hc : ¬ x = y) (w : oWin p e below Z h0 Q E (T.setTop (mkF m pc' ls st))) : oWin p e below Z h0 Q E (T.setTop (mkF m pc ls (.long y :: .long x :: st))) := by
  have w' := W_ifY (x := lcmpV x y) (st := st) B hd' ho ht (by have h : ¬ lcmpV x y = 0 := fun q => hc ((lc_eq x y).mp q); exact (feq h).2) w
  obtain ⟨hx, hZ, hlk, locs, X, N, H⟩ := B
  exact w'.step fun t k => XS.lcmp X.here hx rfl hd rfl (by show Steps p.tables e below (T.setTop (mkF m (pc + 1) ls (.int (lcmpW x y) :: st))) t; rw [lcW]; exact k)
theorem W_lcmpN_ne (B : oB p l e R s m args below meth c Z h0 lo T cells slots ds) {x y : Int64} {o : Int} (hd : decode c.code pc = .ok (.lcmp, 1)) (hd' : decode c.code (pc + 1) = .ok (.ifCond .ne o, 3)) (hp : pc + 1 + 3 = pc') (hc : x = y) (w : oWin p e below Z h0 Q E (T.setTop (mkF m pc' ls st))) : oWin p e below Z h0 Q E (T.setTop (mkF m pc ls (.long y :: .long x :: st))) := by
  have w' := W_ifN (x := lcmpV x y) (st := st) B hd' hp (by have h : lcmpV x y = 0 := (lc_eq x y).mpr hc; exact (teq h).2) w
  obtain ⟨hx, hZ, hlk, locs, X, N, H⟩ := B
  exact w'.step fun t k => XS.lcmp X.here hx rfl hd rfl (by show Steps p.tables e below (T.setTop (mkF m (pc + 1) ls (.int (lcmpW x y) :: st))) t; rw [lcW]; exact k)
theorem W_lcmp_ne (B : oB p l e R s m args below meth c Z h0 lo T cells slots ds) {x y : Int64} {o : Int} {pt : Nat} (hd : decode c.code pc = .ok (.lcmp, 1)) (hd' : decode c.code (pc + 1) = .ok (.ifCond .ne o, 3)) (ho : 0 ≤ ((pc + 1 : Nat) : Int) + o) (ht : (((pc + 1 : Nat) : Int) + o).toNat = pt) (hp : pc + 1 + 3 = pc') (w1 : ¬ x = y → oWin p e below Z h0 Q E (T.setTop (mkF m pt ls st))) (w2 : x = y → oWin p e below Z h0 Q E (T.setTop (mkF m pc' ls st))) : oWin p e below Z h0 Q E (T.setTop (mkF m pc ls (.long y :: .long x :: st))) := by
  by_cases h : x = y
  · exact W_lcmpN_ne B hd hd' hp h (w2 h)
  · exact W_lcmpY_ne B hd hd' ho ht h (w1 h)
theorem W_icmp_lt (B : oB p l e R s m args below meth c Z h0 lo T cells slots ds) {x y : Int32} {o : Int} {pt : Nat} (hd : decode c.code pc = .ok (.if_icmp .lt o, 3)) (ho : 0 ≤ (pc : Int) + o) (ht : ((pc : Int) + o).toNat = pt) (hp : pc + 3 = pc') (w1 : x < y → oWin p e below Z h0 Q E (T.setTop (mkF m pt ls st))) (w2 : ¬ x < y → oWin p e below Z h0 Q E (T.setTop (mkF m pc' ls st))) : oWin p e below Z h0 Q E (T.setTop (mkF m pc ls (.int y :: .int x :: st))) := by
  by_cases h : x < y
  · exact W_icmpY B hd ho ht (tlt h).1 (w1 h)
  · exact W_icmpN B hd hp (flt h).1 (w2 h)
theorem W_if_lt (B : oB p l e R s m args below meth c Z h0 lo T cells slots ds) {x : Int32} {o : Int} {pt : Nat} (hd : decode c.code pc = .ok (.ifCond .lt o, 3)) (ho : 0 ≤ (pc : Int) + o) (ht : ((pc : Int) + o).toNat = pt) (hp : pc + 3 = pc') (w1 : x < 0 → oWin p e below Z h0 Q E (T.setTop (mkF m pt ls st))) (w2 : ¬ x < 0 → oWin p e below Z h0 Q E (T.setTop (mkF m pc' ls st))) : oWin p e below Z h0 Q E (T.setTop (mkF m pc ls (.int x :: st))) := by
  by_cases h : x < 0
  · exact W_ifY B hd ho ht (tlt h).1 (w1 h)
  · exact W_ifN B hd hp (flt h).1 (w2 h)
theorem W_lcmpY_lt (B : oB p l e R s m args below meth c Z h0 lo T cells slots ds) {x y : Int64} {o : Int} (hd : decode c.code pc = .ok (.lcmp, 1)) (hd' : decode c.code (pc + 1) = .ok (.ifCond .lt o, 3)) (ho : 0 ≤ ((pc + 1 : Nat) : Int) + o) (ht : (((pc + 1 : Nat) : Int) + o).toNat = pc') (hc : x < y) (w : oWin p e below Z h0 Q E (T.setTop (mkF m pc' ls st))) : oWin p e below Z h0 Q E (T.setTop (mkF m pc ls (.long y :: .long x :: st))) := by
  have w' := W_ifY (x := lcmpV x y) (st := st) B hd' ho ht (by have h : lcmpV x y < 0 := (lc_lt x y).mpr hc; exact (tlt h).1) w
  obtain ⟨hx, hZ, hlk, locs, X, N, H⟩ := B
  exact w'.step fun t k => XS.lcmp X.here hx rfl hd rfl (by show Steps p.tables e below (T.setTop (mkF m (pc + 1) ls (.int (lcmpW x y) :: st))) t; rw [lcW]; exact k)
theorem W_lcmpN_lt (B : oB p l e R s m args below meth c Z h0 lo T cells slots ds) {x y : Int64} {o : Int} (hd : decode c.code pc = .ok (.lcmp, 1)) (hd' : decode c.code (pc + 1) = .ok (.ifCond .lt o, 3)) (hp : pc + 1 + 3 = pc') (hc : ¬ x < y) (w : oWin p e below Z h0 Q E (T.setTop (mkF m pc' ls st))) : oWin p e below Z h0 Q E (T.setTop (mkF m pc ls (.long y :: .long x :: st))) := by
  have w' := W_ifN (x := lcmpV x y) (st := st) B hd' hp (by have h : ¬ lcmpV x y < 0 := fun q => hc ((lc_lt x y).mp q); exact (flt h).1) w
  obtain ⟨hx, hZ, hlk, locs, X, N, H⟩ := B
  exact w'.step fun t k => XS.lcmp X.here hx rfl hd rfl (by show Steps p.tables e below (T.setTop (mkF m (pc + 1) ls (.int (lcmpW x y) :: st))) t; rw [lcW]; exact k)
theorem W_lcmp_lt (B : oB p l e R s m args below meth c Z h0 lo T cells slots ds) {x y : Int64} {o : Int} {pt : Nat} (hd : decode c.code pc = .ok (.lcmp, 1)) (hd' : decode c.code (pc + 1) = .ok (.ifCond .lt o, 3)) (ho : 0 ≤ ((pc + 1 : Nat) : Int) + o) (ht : (((pc + 1 : Nat) : Int) + o).toNat = pt) (hp : pc + 1 + 3 = pc') (w1 : x < y → oWin p e below Z h0 Q E (T.setTop (mkF m pt ls st))) (w2 : ¬ x < y → oWin p e below Z h0 Q E (T.setTop (mkF m pc' ls st))) : oWin p e below Z h0 Q E (T.setTop (mkF m pc ls (.long y :: .long x :: st))) := by
  by_cases h : x < y
  · exact W_lcmpY_lt B hd hd' ho ht h (w1 h)
  · exact W_lcmpN_lt B hd hd' hp h (w2 h)
theorem W_icmp_ge (B : oB p l e R s m args below meth c Z h0 lo T cells slots ds) {x y : Int32} {o : Int} {pt : Nat} (hd : decode c.code pc = .ok (.if_icmp .ge o, 3)) (ho : 0 ≤ (pc : Int) + o) (ht : ((pc : Int) + o).toNat = pt) (hp : pc + 3 = pc') (w1 : ¬ x < y → oWin p e below Z h0 Q E (T.setTop (mkF m pt ls st))) (w2 : x < y → oWin p e below Z h0 Q E (T.setTop (mkF m pc' ls st))) : oWin p e below Z h0 Q E (T.setTop (mkF m pc ls (.int y :: .int x :: st))) := by
  by_cases h : x < y
  · exact W_icmpN B hd hp (tlt h).2.1 (w2 h)
  · exact W_icmpY B hd ho ht (flt h).2.1 (w1 h)
theorem W_if_ge (B : oB p l e R s m args below meth c Z h0 lo T cells slots ds) {x : Int32} {o : Int} {pt : Nat} (hd : decode c.code pc = .ok (.ifCond .ge o, 3)) (ho : 0 ≤ (pc : Int) + o) (ht : ((pc : Int) + o).toNat = pt) (hp : pc + 3 = pc') (w1 : ¬ x < 0 → oWin p e below Z h0 Q E (T.setTop (mkF m pt ls st))) (w2 : x < 0 → oWin p e below Z h0 Q E (T.setTop (mkF m pc' ls st))) : oWin p e below Z h0 Q E (T.setTop (mkF m pc ls (.int x :: st))) := by
  by_cases h : x < 0
  · exact W_ifN B hd hp (tlt h).2.1 (w2 h)
  · exact W_ifY B hd ho ht (flt h).2.1 (w1 h)
theorem W_lcmpY_ge (B : oB p l e R s m args below meth c Z h0 lo T cells slots ds) {x y : Int64} {o : Int} (hd : decode c.code pc = .ok (.lcmp, 1)) (hd' : decode c.code (pc + 1) = .ok (.ifCond .ge o, 3)) (ho : 0 ≤ ((pc + 1 : Nat) : Int) + o) (ht : (((pc + 1 : Nat) : Int) + o).toNat = pc') (hc : ¬ x < y) (w : oWin p e below Z h0 Q E (T.setTop (mkF m pc' ls st))) : oWin p e below Z h0 Q E (T.setTop (mkF m pc ls (.long y :: .long x :: st))) := by
  have w' := W_ifY (x := lcmpV x y) (st := st) B hd' ho ht (by have h : ¬ lcmpV x y < 0 := fun q => hc ((lc_lt x y).mp q); exact (flt h).2.1) w
  obtain ⟨hx, hZ, hlk, locs, X, N, H⟩ := B
  exact w'.step fun t k => XS.lcmp X.here hx rfl hd rfl (by show Steps p.tables e below (T.setTop (mkF m (pc + 1) ls (.int (lcmpW x y) :: st))) t; rw [lcW]; exact k)
theorem W_lcmpN_ge (B : oB p l e R s m args below meth c Z h0 lo T cells slots ds) {x y : Int64} {o : Int} (hd : decode c.code pc = .ok (.lcmp, 1)) (hd' : decode c.code (pc + 1) = .ok (.ifCond .ge o, 3)) (hp : pc + 1 + 3 = pc') (hc : x < y) (w : oWin p e below Z h0 Q E (T.setTop (mkF m pc' ls st))) : oWin p e below Z h0 Q E (T.setTop (mkF m pc ls (.long y :: .long x :: st))) := by
  have w' := W_ifN (x := lcmpV x y) (st := st) B hd' hp (by have h : lcmpV x y < 0 := (lc_lt x y).mpr hc; exact (tlt h).2.1) w
  obtain ⟨hx, hZ, hlk, locs, X, N, H⟩ := B
  exact w'.step fun t k => XS.lcmp X.here hx rfl hd rfl (by show Steps p.tables e below (T.setTop (mkF m (pc + 1) ls (.int (lcmpW x y) :: st))) t; rw [lcW]; exact k)
theorem W_lcmp_ge (B : oB p l e R s m args below meth c Z h0 lo T cells slots ds) {x y : Int64} {o : Int} {pt : Nat} (hd : decode c.code pc = .ok (.lcmp, 1)) (hd' : decode c.code (pc + 1) = .ok (.ifCond .ge o, 3)) (ho : 0 ≤ ((pc + 1 : Nat) : Int) + o) (ht : (((pc + 1 : Nat) : Int) + o).toNat = pt) (hp : pc + 1 + 3 = pc') (w1 : ¬ x < y → oWin p e below Z h0 Q E (T.setTop (mkF m pt ls st))) (w2 : x < y → oWin p e below Z h0 Q E (T.setTop (mkF m pc' ls st))) : oWin p e below Z h0 Q E (T.setTop (mkF m pc ls (.long y :: .long x :: st))) := by
  by_cases h : x < y
  · exact W_lcmpN_ge B hd hd' hp h (w2 h)
  · exact W_lcmpY_ge B hd hd' ho ht h (w1 h)
theorem W_icmp_gt (B : oB p l e R s m args below meth c Z h0 lo T cells slots ds) {x y : Int32} {o : Int} {pt : Nat} (hd : decode c.code pc = .ok (.if_icmp .gt o, 3)) (ho : 0 ≤ (pc : Int) + o) (ht : ((pc : Int) + o).toNat = pt) (hp : pc + 3 = pc') (w1 : y < x → oWin p e below Z h0 Q E (T.setTop (mkF m pt ls st))) (w2 : ¬ y < x → oWin p e below Z h0 Q E (T.setTop (mkF m pc' ls st))) : oWin p e below Z h0 Q E (T.setTop (mkF m pc ls (.int y :: .int x :: st))) := by
  by_cases h : y < x
  · exact W_icmpY B hd ho ht (tlt h).2.2.1 (w1 h)
  · exact W_icmpN B hd hp (flt h).2.2.1 (w2 h)
theorem W_if_gt (B : oB p l e R s m args below meth c Z h0 lo T cells slots ds) {x : Int32} {o : Int} {pt : Nat} (hd : decode c.code pc = .ok (.ifCond .gt o, 3)) (ho : 0 ≤ (pc : Int) + o) (ht : ((pc : Int) + o).toNat = pt) (hp : pc + 3 = pc') (w1 : 0 < x → oWin p e below Z h0 Q E (T.setTop (mkF m pt ls st))) (w2 : ¬ 0 < x → oWin p e below Z h0 Q E (T.setTop (mkF m pc' ls st))) : oWin p e below Z h0 Q E (T.setTop (mkF m pc ls (.int x :: st))) := by
  by_cases h : 0 < x
  · exact W_ifY B hd ho ht (tlt h).2.2.1 (w1 h)
  · exact W_ifN B hd hp (flt h).2.2.1 (w2 h)
theorem W_lcmpY_gt (B : oB p l e R s m args below meth c Z h0 lo T cells slots ds) {x y : Int64} {o : Int} (hd : decode c.code pc = .ok (.lcmp, 1)) (hd' : decode c.code (pc + 1) = .ok (.ifCond .gt o, 3)) (ho : 0 ≤ ((pc + 1 : Nat) : Int) + o) (ht : (((pc + 1 : Nat) : Int) + o).toNat = pc') (hc : y < x) (w : oWin p e below Z h0 Q E (T.setTop (mkF m pc' ls st))) : oWin p e below Z h0 Q E (T.setTop (mkF m pc ls (.long y :: .long x :: st))) := by
  have w' := W_ifY (x := lcmpV x y) (st := st) B hd' ho ht (by have h : 0 < lcmpV x y := (lc_gt x y).mpr hc; exact (tlt h).2.2.1) w
  obtain ⟨hx, hZ, hlk, locs, X, N, H⟩ := B
  exact w'.step fun t k => XS.lcmp X.here hx rfl hd rfl (by show Steps p.tables e below (T.setTop (mkF m (pc + 1) ls (.int (lcmpW x y) :: st))) t; rw [lcW]; exact k)
theorem W_lcmpN_gt (B : oB p l e R s m args below meth c Z h0 lo T cells slots ds) {x y : Int64} {o : Int} (hd : decode c.code pc = .ok (.lcmp, 1)) (hd' : decode c.code (pc + 1) = .ok (.ifCond .gt o, 3)) (hp : pc + 1 + 3 = pc') (hc : ¬ y < x) (w : oWin p e below Z h0 Q E (T.setTop (mkF m pc' ls st))) : oWin p e below Z h0 Q E (T.setTop (mkF m pc ls (.long y :: .long x :: st))) := by
  have w' := W_ifN (x := lcmpV x y) (st := st) B hd' hp (by have h : ¬ 0 < lcmpV x y := fun q => hc ((lc_gt x y).mp q); exact (flt h).2.2.1) w
  obtain ⟨hx, hZ, hlk, locs, X, N, H⟩ := B
  exact w'.step fun t k => XS.lcmp X.here hx rfl hd rfl (by show Steps p.tables e below (T.setTop (mkF m (pc + 1) ls (.int (lcmpW x y) :: st))) t; rw [lcW]; exact k)
theorem W_lcmp_gt (B : oB p l e R s m args below meth c Z h0 lo T cells slots ds) {x y : Int64} {o : Int} {pt : Nat} (hd : decode c.code pc = .ok (.lcmp, 1)) (hd' : decode c.code (pc + 1) = .ok (.ifCond .gt o, 3)) (ho : 0 ≤ ((pc + 1 : Nat) : Int) + o) (ht : (((pc + 1 : Nat) : Int) + o).toNat = pt) (hp : pc + 1 + 3 = pc') (w1 : y < x → oWin p e below Z h0 Q E (T.setTop (mkF m pt ls st))) (w2 : ¬ y < x → oWin p e below Z h0 Q E (T.setTop (mkF m pc' ls st))) : oWin p e below Z h0 Q E (T.setTop (mkF m pc ls (.long y :: .long x :: st))) := by
  by_cases h : y < x
  · exact W_lcmpY_gt B hd hd' ho ht h (w1 h)
  · exact W_lcmpN_gt B hd hd' hp h (w2 h)
theorem W_icmp_le (B : oB p l e R s m args below meth c Z h0 lo T cells slots ds) {x y : Int32} {o : Int} {pt : Nat} (hd : decode c.code pc = .ok (.if_icmp .le o, 3)) (ho : 0 ≤ (pc : Int) + o) (ht : ((pc : Int) + o).toNat = pt) (hp : pc + 3 = pc') (w1 : ¬ y < x → oWin p e below Z h0 Q E (T.setTop (mkF m pt ls st))) (w2 : y < x → oWin p e below Z h0 Q E (T.setTop (mkF m pc' ls st))) : oWin p e below Z h0 Q E (T.setTop (mkF m pc ls (.int y :: .int x :: st))) := by
  by_cases h : y < x
  · exact W_icmpN B hd hp (tlt h).2.2.2 (w2 h)
  · exact W_icmpY B hd ho ht (flt h).2.2.2 (w1 h)
theorem W_if_le (B : oB p l e R s m args below meth c Z h0 lo T cells slots ds) {x : Int32} {o : Int} {pt : Nat} (hd : decode c.code pc = .ok (.ifCond .le o, 3)) (ho : 0 ≤ (pc : Int) + o) (ht : ((pc : Int) + o).toNat = pt) (hp : pc + 3 = pc') (w1 : ¬ 0 < x → oWin p e below Z h0 Q E (T.setTop (mkF m pt ls st))) (w2 : 0 < x → oWin p e below Z h0 Q E (T.setTop (mkF m pc' ls st))) : oWin p e below Z h0 Q E (T.setTop (mkF m pc ls (.int x :: st))) := by
  by_cases h : 0 < x
  · exact W_ifN B hd hp (tlt h).2.2.2 (w2 h)
  · exact W_ifY B hd ho ht (flt h).2.2.2 (w1 h)
theorem W_lcmpY_le (B : oB p l e R s m args below meth c Z h0 lo T cells slots ds) {x y : Int64} {o : Int} (hd : decode c.code pc = .ok (.lcmp, 1)) (hd' : decode c.code (pc + 1) = .ok (.ifCond .le o, 3)) (ho : 0 ≤ ((pc + 1 : Nat) : Int) + o) (ht : (((pc + 1 : Nat) : Int) + o).toNat = pc') (hc : ¬ y < x) (w : oWin p e below Z h0 Q E (T.setTop (mkF m pc' ls st))) : oWin p e below Z h0 Q E (T.setTop (mkF m pc ls (.long y :: .long x :: st))) := by
  have w' := W_ifY (x := lcmpV x y) (st := st) B hd' ho ht (by have h : ¬ 0 < lcmpV x y := fun q => hc ((lc_gt x y).mp q); exact (flt h).2.2.2) w
  obtain ⟨hx, hZ, hlk, locs, X, N, H⟩ := B
  exact w'.step fun t k => XS.lcmp X.here hx rfl hd rfl (by show Steps p.tables e below (T.setTop (mkF m (pc + 1) ls (.int (lcmpW x y) :: st))) t; rw [lcW]; exact k)
theorem W_lcmpN_le (B : oB p l e R s m args below meth c Z h0 lo T cells slots ds) {x y : Int64} {o : Int} (hd : decode c.code pc = .ok (.lcmp, 1)) (hd' : decode c.code (pc + 1) = .ok (.ifCond .le o, 3)) (hp : pc + 1 + 3 = pc') (hc : y < x) (w : oWin p e below Z h0 Q E (T.setTop (mkF m pc' ls st))) : oWin p e below Z h0 Q E (T.setTop (mkF m pc ls (.long y :: .long x :: st))) := by
  have w' := W_ifN (x := lcmpV x y) (st := st) B hd' hp (by have h : 0 < lcmpV x y := (lc_gt x y).mpr hc; exact (tlt h).2.2.2) w
  obtain ⟨hx, hZ, hlk, locs, X, N, H⟩ := B
  exact w'.step fun t k => XS.lcmp X.here hx rfl hd rfl (by show Steps p.tables e below (T.setTop (mkF m (pc + 1) ls (.int (lcmpW x y) :: st))) t; rw [lcW]; exact k)
theorem W_lcmp_le (B : oB p l e R s m args below meth c Z h0 lo T cells slots ds) {x y : Int64} {o : Int} {pt : Nat} (hd : decode c.code pc = .ok (.lcmp, 1)) (hd' : decode c.code (pc + 1) = .ok (.ifCond .le o, 3)) (ho : 0 ≤ ((pc + 1 : Nat) : Int) + o) (ht : (((pc + 1 : Nat) : Int) + o).toNat = pt) (hp : pc + 1 + 3 = pc') (w1 : ¬ y < x → oWin p e below Z h0 Q E (T.setTop (mkF m pt ls st))) (w2 : y < x → oWin p e below Z h0 Q E (T.setTop (mkF m pc' ls st))) : oWin p e below Z h0 Q E (T.setTop (mkF m pc ls (.long y :: .long x :: st))) := by
  by_cases h : y < x
  · exact W_lcmpN_le B hd hd' hp h (w2 h)
  · exact W_lcmpY_le B hd hd' ho ht h (w1 h)
theorem W_ifnullY (B : oB p l e R s m args below meth c Z h0 lo T cells slots ds) {o : Int} (hd : decode c.code pc = .ok (.ifnull o, 3)) (ho : 0 ≤ (pc : Int) + o) (hp : ((pc : Int) + o).toNat = pc') (w : oWin p e below Z h0 Q E (T.setTop (mkF m pc' ls st))) : oWin p e below Z h0 Q E (T.setTop (mkF m pc ls (.null :: st))) := by
  obtain ⟨hx, hZ, hlk, locs, X, N, H⟩ := B
  exact w.step fun t k => XS.ifnullYes X.here hx rfl rfl hd rfl ho hp k
theorem W_ifnullN (B : oB p l e R s m args below meth c Z h0 lo T cells slots ds) {o : Int} {a : Addr} (hd : decode c.code pc = .ok (.ifnull o, 3)) (hp : pc + 3 = pc') (w : oWin p e below Z h0 Q E (T.setTop (mkF m pc' ls st))) : oWin p e below Z h0 Q E (T.setTop (mkF m pc ls (.ref a :: st))) := by
  subst hp
  obtain ⟨hx, hZ, hlk, locs, X, N, H⟩ := B
  exact w.step fun t k => XS.ifnullNo X.here hx rfl hd rfl k
theorem W_ifnonnullY (B : oB p l e R s m args below meth c Z h0 lo T cells slots ds) {o : Int} {a : Addr} (hd : decode c.code pc = .ok (.ifnonnull o, 3)) (ho : 0 ≤ (pc : Int) + o) (hp : ((pc : Int) + o).toNat = pc') (w : oWin p e below Z h0 Q E (T.setTop (mkF m pc' ls st))) : oWin p e below Z h0 Q E (T.setTop (mkF m pc ls (.ref a :: st))) := by
  obtain ⟨hx, hZ, hlk, locs, X, N, H⟩ := B
  exact w.step fun t k => XS.ifnonnullYes X.here hx rfl rfl hd rfl ho hp k
theorem W_ifnonnullN (B : oB p l e R s m args below meth c Z h0 lo T cells slots ds) {o : Int} (hd : decode c.code pc = .ok (.ifnonnull o, 3)) (hp : pc + 3 = pc') (w : oWin p e below Z h0 Q E (T.setTop (mkF m pc' ls st))) : oWin p e below Z h0 Q E (T.setTop (mkF m pc ls (.null :: st))) := by
  subst hp
  obtain ⟨hx, hZ, hlk, locs, X, N, H⟩ := B
  exact w.step fun t k => XS.ifnonnullNo X.here hx rfl hd rfl k
theorem W_acmp (B : oB p l e R s m args below meth c Z h0 lo T cells slots ds) {cd : ACond} {o : Int} {x y : Value} {same : Bool} (hd : decode c.code pc = .ok (.if_acmp cd o, 3)) (h1 : x.isRef = true) (h2 : y.isRef = true) (hq : decide (x = y) = same) (ho : 0 ≤ (pc : Int) + o) (hp : pc' = if acV cd same = true then ((pc : Int) + o).toNat else pc + 3) (w : oWin p e below Z h0 Q E (T.setTop (mkF m pc' ls st))) : oWin p e below Z h0 Q E (T.setTop (mkF m pc ls (y :: x :: st))) := by
  obtain ⟨hx, hZ, hlk, locs, X, N, H⟩ := B
  exact w.step fun t k => Jvm.RoadKit.acmp (g := mkF m pc ls (y :: x :: st)) X hx rfl h1 h2 rfl hd rfl hq ho hp k
theorem W_ldcInt (B : oB p l e R s m args below meth c Z h0 lo T cells slots ds) {own : String} {i : Nat} {v : Int32} (hown : s.vm.findClass own = some m.cls) (w : (Jvm.Cond.constant own i v).before a0 Z = true) (hd : decode c.code pc = .ok (.ldc i, 2)) (hp : pc + 2 = pc') (k : oWin p e below Z h0 Q E (T.setTop (mkF m pc' ls (.int v :: st)))) : oWin p e below Z h0 Q E (T.setTop (mkF m pc ls st)) := by
  subst hp
  obtain ⟨hx, hZ, hlk, locs, X, N, H⟩ := B
  exact k.step (X.ldcInt hx hown (mvT hZ w) (g := mkF m pc ls st) rfl hd)
theorem W_ldc2Long (B : oB p l e R s m args below meth c Z h0 lo T cells slots ds) {own : String} {i : Nat} {v : Int64} (hown : s.vm.findClass own = some m.cls) (w : (Jvm.Cond.constantLong own i v).before a0 Z = true) (hd : decode c.code pc = .ok (.ldc2_w i, 3)) (hp : pc + 3 = pc') (k : oWin p e below Z h0 Q E (T.setTop (mkF m pc' ls (.long v :: st)))) : oWin p e below Z h0 Q E (T.setTop (mkF m pc ls st)) := by
  subst hp
  obtain ⟨hx, hZ, hlk, locs, X, N, H⟩ := B
  exact k.step (X.ldc2Long hx hown (mvT hZ w) (g := mkF m pc ls st) rfl hd)
theorem W_getstatic (B : oB p l e R s m args below meth c Z h0 lo T cells slots ds) {own R0 O n d host : String} {i : Nat} {v : Value} (hown : s.vm.findClass own = some m.cls) (w : (Jvm.Cond.fieldLink own i R0 n d).before a0 Z = true ∨ (Jvm.Cond.fieldLinkNest own i R0 n d host).before a0 Z = true) (via : Via Z R0 O n d) (F : Sta Z h0 O n d v) (hd : decode c.code pc = .ok (.getstatic i, 3)) (hp : pc + 3 = pc')
    (k : ∀ T, oB p l e R s m args below meth c Z h0 lo T cells slots ds → oWin p e below Z h0 Q E (T.setTop (mkF m pc' ls (v :: st)))) : oWin p e below Z h0 Q E (T.setTop (mkF m pc ls st)) := by
  subst hp
  obtain ⟨hx, hZ, hlk, locs, X, N, H⟩ := B
  obtain ⟨T', X', e', stp⟩ := getS2 X hx hZ hown w via rfl (F.ext H.1.1) (g := mkF m pc ls st) rfl hd
  exact (k T' ⟨hx, hZ, hlk, locs, X', N, e' ▸ H⟩).step stp
theorem W_getfield (B : oB p l e R s m args below meth c Z h0 lo T cells slots ds) {own R0 O n d host : String} {i j q : Nat} {a : Addr} {C : String} {fs : List (oFK × Value)} {v : Value} (hown : s.vm.findClass own = some m.cls) (w : (Jvm.Cond.fieldLink own i R0 n d).before a0 Z = true ∨ (Jvm.Cond.fieldLinkNest own i R0 n d host).before a0 Z = true) (via : Via Z R0 O n d) (hd : decode c.code pc = .ok (.getfield i, 3)) (hp : pc + 3 = pc')
    (hi : ds[j]? = some (a, oO C fs)) (hf : fs[q]? = some ((O, n, d), v))
    (k : ∀ T, oB p l e R s m args below meth c Z h0 lo T cells slots ds → oWin p e below Z h0 Q E (T.setTop (mkF m pc' ls (v :: st)))) : oWin p e below Z h0 Q E (T.setTop (mkF m pc ls (.ref a :: st))) := by
  subst hp
  obtain ⟨hx, hZ, hlk, locs, X, N, H⟩ := B
  have F := (H.at hi).2.2.1 _ (List.mem_of_getElem? hf)
  obtain ⟨T', X', e', stp⟩ := getF X hx hZ hown w via rfl F (g := mkF m pc ls (.ref a :: st)) rfl rfl hd
  exact (k T' ⟨hx, hZ, hlk, locs, X', N, e' ▸ H⟩).step stp
theorem oIs.put {h h' : Heap} {a : Addr} {C : String} {fs : List (oFK × Value)} {q : Nat} {f : oFK} {old v : Value} (I : oIs Z h a (oO C fs)) (hf : fs[q]? = some (f, old)) (W : Wr h h' a (oSl Z f) v) : oIs Z h' a (oO C (fs.set q (f, v))) := by
  obtain ⟨E, F, P⟩ := I
  have hq : q < fs.length := (List.getElem?_eq_some_iff.mp hf).1
  refine ⟨E.wr W, fun g hg => ?_, ?_⟩
  · obtain ⟨j, hj⟩ := List.mem_iff_getElem?.mp hg
    rw [List.getElem?_set] at hj
    by_cases e : q = j
    · rw [if_pos e, if_pos hq] at hj
      cases hj
      exact Fld.same (Z := Z) (C := f.1) (n := f.2.1) (d := f.2.2) W (F _ (List.mem_of_getElem? hf))
    · rw [if_neg e] at hj
      refine (F g (List.mem_of_getElem? hj)).other W (Or.inr ?_)
      obtain ⟨lj, ej⟩ := List.getElem?_eq_some_iff.mp hj
      obtain ⟨lq, eq⟩ := List.getElem?_eq_some_iff.mp hf
      have P' := List.pairwise_iff_getElem.mp P
      rcases Nat.lt_or_gt_of_ne e with r | r
      · have := P' q j lq lj r
        rw [ej, eq] at this; exact fun z => this z.symm
      · have := P' j q lj lq r
        rw [ej, eq] at this; exact this
  · refine List.pairwise_iff_getElem.mpr fun i j li lj r => ?_
    rw [List.length_set] at li lj
    have P' := List.pairwise_iff_getElem.mp P i j li lj r
    have key : ∀ k (lk : k < fs.length) (lk' : k < (fs.set q (f, v)).length), ((fs.set q (f, v))[k]'lk').1 = (fs[k]).1 := fun k lk lk' => by
      rw [List.getElem_set]
      split
      · rename_i hk; subst hk; obtain ⟨_, eq⟩ := List.getElem?_eq_some_iff.mp hf; rw [eq]
      · rfl
    rw [key i li, key j lj]; exact P'
theorem W_putfield (B : oB p l e R s m args below meth c Z h0 lo T cells slots ds) {own R0 O n d host : String} {i j q kk : Nat} {a : Addr} {C : String} {fs : List (oFK × Value)} {old v : Value} {ty : FieldType} (hown : s.vm.findClass own = some m.cls) (w : (Jvm.Cond.fieldLink own i R0 n d).before a0 Z = true ∨ (Jvm.Cond.fieldLinkNest own i R0 n d host).before a0 Z = true) (via : Via Z R0 O n d) (hd : decode c.code pc = .ok (.putfield i, 3)) (hp : pc + 3 = pc')
    (L : (Jvm.Cond.lays C O n d).before a0 Z = true ∨ ((Jvm.Cond.laysFinal C O n d).before a0 Z = true ∧ own = O ∧ meth.name = "<init>")) (wi : (Jvm.Cond.instantiable C kk).before a0 Z = true) (hty : parseFieldDescriptor d = some ty) (hn : narrow ty v = v) (hft : fits ty v = true)
    (hi : ds[j]? = some (a, oO C fs)) (hf : fs[q]? = some ((O, n, d), old)) (hds : ds.set j (a, oO C (fs.set q ((O, n, d), v))) = ds')
    (k : ∀ T, oB p l e R s m args below meth c Z h0 lo T cells slots ds' → oWin p e below Z h0 Q E (T.setTop (mkF m pc' ls st))) : oWin p e below Z h0 Q E (T.setTop (mkF m pc ls (v :: .ref a :: st))) := by
  subst hp hds
  obtain ⟨hx, hZ, hlk, locs, X, N, H⟩ := B
  obtain ⟨ha, I⟩ := H.at hi
  obtain ⟨T', h', X', e', W, stp⟩ := putF X hx hZ hown w via rfl (I.2.1 _ (List.mem_of_getElem? hf)) I.1 L wi hty hn hft (g := mkF m pc ls (v :: .ref a :: st)) rfl rfl hd
  subst e'
  exact (k T' ⟨hx, hZ, hlk, _, X', Fr.snoc X' N ha, H.wr hi W (I.put hf W)⟩).step stp
def oLaid (Z : State) (a0 : Array Value) (C : String) (f : oFK × Value) : Prop := Laid Z a0 C f.1.1 f.1.2.1 f.1.2.2 ∧ ∃ ty, parseFieldDescriptor f.1.2.2 = some ty ∧ f.2 = defaultValue ty
theorem oAll_nil {P : oFK × Value → Prop} : ∀ f ∈ ([] : List (oFK × Value)), P f := fun _ h => nomatch h
theorem oAll_cons {P : oFK × Value → Prop} {f : oFK × Value} {fs : List (oFK × Value)} (h : P f) (h' : ∀ g ∈ fs, P g) : ∀ g ∈ f :: fs, P g := fun g hg => (List.mem_cons.mp hg).elim (fun e => e ▸ h) (h' g)
theorem W_new (B : oB p l e R s m args below meth c Z h0 lo T cells slots ds) {own C : String} {i n : Nat} {fs : List (oFK × Value)} (hown : s.vm.findClass own = some m.cls) (w : (Jvm.Cond.classLink own i C).before a0 Z = true) (wi : (Jvm.Cond.instantiable C n).before a0 Z = true) (wz : (Jvm.Cond.initialized C).before a0 Z = true) (hd : decode c.code pc = .ok (.new i, 3)) (hp : pc + 3 = pc')
    (hr : cells + 1 ≤ R.cells ∧ slots + n ≤ R.slots) {cells' slots' : Nat} (hc' : cells + 1 = cells') (hs' : slots + n = slots')
    (hfs : ∀ f ∈ fs, oLaid Z a0 C f) (hnd : (fs.map fun f => f.1.2.1).Nodup)
    (k : ∀ T a, oB p l e R s m args below meth c Z h0 lo T cells' slots' ((a, oO C fs) :: ds) → oWin p e below Z h0 Q E (T.setTop (mkF m pc' ls (.ref a :: st)))) : oWin p e below Z h0 Q E (T.setTop (mkF m pc ls st)) := by
  subst hp hc' hs'
  obtain ⟨hx, hZ, hlk, locs, X, N, H⟩ := B
  obtain ⟨T', h', X', e', E, A, D, -, stp⟩ := newO X hx hZ hown w wi wz rfl (g := mkF m pc ls st) rfl hd hr.1 hr.2
  subst e'
  refine (k T' T.heap.size ⟨hx, hZ, hlk, _, X', N, H.new E ⟨A, fun f hf => ?_, ?_⟩⟩).step stp
  · obtain ⟨L, ty, h1, h2⟩ := hfs f hf
    rw [h2]; exact D L h1
  · have P := List.pairwise_map.mp (List.nodup_iff_pairwise_ne.mp hnd)
    refine P.imp_of_mem fun {f g} hf hg ne => ?_
    obtain ⟨L, ty, h1, h2⟩ := hfs f hf
    obtain ⟨L', ty', h1', h2'⟩ := hfs g hg
    exact Jvm.RoadKit.slot_ne L L' ne h1 h1'
theorem W_newarray (B : oB p l e R s m args below meth c Z h0 lo T cells slots ds) {aty : ArrayType} {n : Int32} {cap : Nat} {vs : List Value} (w : (Jvm.Cond.arrayClass (newarray.typeOf aty)).before a0 Z = true) (hd : decode c.code pc = .ok (.newarray aty, 2)) (hp : pc + 2 = pc') (hn : ¬ n < 0) (hcap : n.toNatClampNeg ≤ cap)
    (hr : cap * 8 ≤ 536870912 ∧ cells + 1 ≤ R.cells ∧ slots + cap ≤ R.slots) {cells' slots' : Nat} (hc' : cells + 1 = cells') (hs' : slots + cap = slots') (hvs : List.replicate n.toNatClampNeg (defaultValue (newarray.typeOf aty)) = vs) {ty : FieldType} (hty : newarray.typeOf aty = ty)
    (k : ∀ T a, oB p l e R s m args below meth c Z h0 lo T cells' slots' ((a, oA ty vs) :: ds) → oWin p e below Z h0 Q E (T.setTop (mkF m pc' ls (.ref a :: st)))) : oWin p e below Z h0 Q E (T.setTop (mkF m pc ls (.int n :: st))) := by
  subst hp hc' hs' hvs hty
  obtain ⟨hx, hZ, hlk, locs, X, N, H⟩ := B
  obtain ⟨T', h', cA, X', e', E, A, EA, stp⟩ := newPE X hx hZ w rfl (g := mkF m pc ls (.int n :: st)) rfl hd rfl hn hcap hr.1 hr.2.1 hr.2.2 rfl
  subst e'
  exact (k T' T.heap.size ⟨hx, hZ, hlk, _, X', N, H.new E ⟨_, A, by simp [newA], (fun C hC => by cases aty <;> cases hC), EA, fun v hv => by rw [(List.mem_replicate.mp hv).2]; cases aty <;> rfl⟩⟩).step stp
theorem W_anewarray (B : oB p l e R s m args below meth c Z h0 lo T cells slots ds) {own C : String} {i : Nat} {n : Int32} {cap : Nat} {vs : List Value} (hown : s.vm.findClass own = some m.cls) (w : (Jvm.Cond.classLink own i C).before a0 Z = true) (w2 : (Jvm.Cond.arrayOver (.object C)).before a0 Z = true) (hd : decode c.code pc = .ok (.anewarray i, 3)) (hp : pc + 3 = pc') (hn : ¬ n < 0) (hcap : n.toNatClampNeg ≤ cap)
    (hr : cap * 8 ≤ 536870912 ∧ cells + 1 ≤ R.cells ∧ slots + cap ≤ R.slots) {cells' slots' : Nat} (hc' : cells + 1 = cells') (hs' : slots + cap = slots') (hvs : List.replicate n.toNatClampNeg Value.null = vs)
    (k : ∀ T a, oB p l e R s m args below meth c Z h0 lo T cells' slots' ((a, oA (.object C) vs) :: ds) → oWin p e below Z h0 Q E (T.setTop (mkF m pc' ls (.ref a :: st)))) : oWin p e below Z h0 Q E (T.setTop (mkF m pc ls (.int n :: st))) := by
  subst hp hc' hs' hvs
  obtain ⟨hx, hZ, hlk, locs, X, N, H⟩ := B
  obtain ⟨T', h', cA, X', e', E, A, EA, O, stp⟩ := newRE X hx hZ hown w w2 rfl (g := mkF m pc ls (.int n :: st)) rfl hd rfl hn hcap hr.1 hr.2.1 hr.2.2 rfl
  subst e'
  exact (k T' T.heap.size ⟨hx, hZ, hlk, _, X', N, H.new E ⟨_, A, by simp [newA, defaultValue], (fun C' hC => by cases hC; exact O), EA, fun v hv => by rw [(List.mem_replicate.mp hv).2]; rfl⟩⟩).step stp
theorem W_arraylength (B : oB p l e R s m args below meth c Z h0 lo T cells slots ds) {j : Nat} {a : Addr} {ty : FieldType} {vs : List Value} {z : Int32} (hd : decode c.code pc = .ok (.arraylength, 1)) (hp : pc + 1 = pc') (hi : ds[j]? = some (a, oA ty vs)) (hz : vs.length.toInt32 = z) (w : oWin p e below Z h0 Q E (T.setTop (mkF m pc' ls (.int z :: st)))) : oWin p e below Z h0 Q E (T.setTop (mkF m pc ls (.ref a :: st))) := by
  subst hp hz
  obtain ⟨hx, hZ, hlk, locs, X, N, H⟩ := B
  obtain ⟨-, c', A, e, -⟩ := H.at hi
  have e2 : c'.slots.size = vs.length := by rw [e]; simp
  refine w.step fun t k => X.arraylength hx A.1 (State.isArrayOf_alike hZ.alike A.2.1) (g := mkF m pc ls (.ref a :: st)) rfl rfl hd t ?_
  rw [e2]; exact k
theorem oIn {vs : List Value} {j : Int32} {v : Value} {c' : Cell} (e : c'.slots = vs.toArray) (hj : ¬ j < 0) (hv : vs[j.toNatClampNeg]? = some v) : ¬ (j < 0 ∨ c'.slots.size ≤ j.toNatClampNeg) ∧ c'.slots[j.toNatClampNeg]? = some v := by
  have h1 : j.toNatClampNeg < vs.length := (List.getElem?_eq_some_iff.mp hv).1
  refine ⟨fun q => ?_, by rw [e]; simpa using hv⟩
  rcases q with q | q
  · exact hj q
  · rw [e] at q; simp at q; omega
theorem oIs.store {h h' : Heap} {a : Addr} {ty : FieldType} {vs : List Value} {i : Nat} {v : Value} (I : oIs Z h a (oA ty vs)) (W : Wr h h' a i v) (hv : fits ty v = true) : oIs Z h' a (oA ty (vs.set i v)) := by
  obtain ⟨c', A, e, O, E, F⟩ := I
  refine ⟨_, A.same W, ?_, O, E.wr W, fun w hw => ?_⟩
  · show c'.slots.setIfInBounds i v = _
    rw [e]; simp
  · rcases List.mem_or_eq_of_mem_set hw with q | q
    · exact F w q
    · rw [q]; exact hv
theorem W_clone (B : oB p l e R s m args below meth c Z h0 lo T cells slots ds) {own ad : String} {i j : Nat} {a : Addr} {ty : FieldType} {vs : List Value} {cap W : Nat} (hown : s.vm.findClass own = some m.cls) (w1 : (Jvm.Cond.methodLink own i ⟨ad, "clone", "()Ljava/lang/Object;"⟩).before a0 Z = true) (w2 : (Jvm.Cond.sameMethod ad "java/lang/Object" "clone" "()Ljava/lang/Object;").before a0 Z = true) (w3 : (Jvm.Cond.native ⟨"java/lang/Object", "clone", "()Ljava/lang/Object;"⟩).before a0 Z = true)
    (w4 : (Jvm.Cond.instanceMethod ⟨"java/lang/Object", "clone", "()Ljava/lang/Object;"⟩).before a0 Z = true) (w5 : (Jvm.Cond.selects ad ⟨ad, "clone", "()Ljava/lang/Object;"⟩ ⟨"java/lang/Object", "clone", "()Ljava/lang/Object;"⟩).before a0 Z = true) (w6 : (Jvm.Cond.castable ad "java/lang/Cloneable").before a0 Z = true)
    (had : "[" ++ ty.toString = ad) (hi : ds[j]? = some (a, oA ty vs)) (hd : decode c.code pc = .ok (.invokevirtual i, 3)) (hp : pc + 3 = pc') (hsz : ls.size = c.maxLocals) (hW : (st.map fun v => v.category).sum ≤ W) (hcap : vs.length ≤ cap) (hr : 1 ≤ R.frames ∧ W + 14 ≤ R.locals ∧ cells + 1 ≤ R.cells ∧ slots + cap ≤ R.slots) {cells' slots' : Nat} (hc' : cells + 1 = cells') (hs' : slots + cap = slots')
    (k : ∀ T b, oB p l e R s m args below meth c Z h0 lo T cells' slots' ((b, oA ty vs) :: ds) → oWin p e below Z h0 Q E (T.setTop (mkF m pc' ls (.ref b :: st)))) : oWin p e below Z h0 Q E (T.setTop (mkF m pc ls (.ref a :: st))) := by
  subst hp hc' hs' had
  obtain ⟨hx, hZ, hlk, locs, X, N, H⟩ := B
  obtain ⟨-, c', A, e1, O, E, F⟩ := H.at hi
  have FC : FitC Z c' := fitC_of A fun i hi v hv => F v (by rw [e1] at hv; simpa using List.mem_of_getElem? (l := vs) (by simpa using hv))
  obtain ⟨T', h', X', e', ex, A', E', stp⟩ := cloneA X hx hZ hown w1 w2 w3 w4 w5 w6 rfl A E FC (g := mkF m pc ls (.ref a :: st)) rfl hsz rfl hd hr.1 (W := W) (cap := cap) (by simpa using hW) hr.2.1 (by rw [e1]; simpa using hcap) hr.2.2.1 hr.2.2.2
  subst e'
  exact (k T' T.heap.size ⟨hx, hZ, hlk, _, X', N, H.new ex ⟨_, A', e1, O, E', F⟩⟩).step stp
theorem W_castArr (B : oB p l e R s m args below meth c Z h0 lo T cells slots ds) {own ad : String} {i j : Nat} {a : Addr} {ty : FieldType} {vs : List Value} (hown : s.vm.findClass own = some m.cls) (w : (Jvm.Cond.classLink own i ad).before a0 Z = true) (had : "[" ++ ty.toString = ad) (hi : ds[j]? = some (a, oA ty vs)) (hd : decode c.code pc = .ok (.checkcast i, 3)) (hp : pc + 3 = pc')
    (k : ∀ T, oB p l e R s m args below meth c Z h0 lo T cells slots ds → oWin p e below Z h0 Q E (T.setTop (mkF m pc' ls (.ref a :: st)))) : oWin p e below Z h0 Q E (T.setTop (mkF m pc ls (.ref a :: st))) := by
  subst hp had
  obtain ⟨hx, hZ, hlk, locs, X, N, H⟩ := B
  obtain ⟨-, c', A, e1, O, E, F⟩ := H.at hi
  obtain ⟨T', X', e', stp⟩ := castY X hx hZ hown w rfl (Ins.self E) (g := mkF m pc ls (.ref a :: st)) rfl rfl hd
  exact (k T' ⟨hx, hZ, hlk, locs, X', N, e' ▸ H⟩).step stp
theorem W_iaload (B : oB p l e R s m args below meth c Z h0 lo T cells slots ds) {i : Nat} {a : Addr} {vs : List Value} {j : Int32} {v : Value} (hd : decode c.code pc = .ok (.iaload, 1)) (hp : pc + 1 = pc') (hi : ds[i]? = some (a, oA .int vs)) (hj : ¬ j < 0) (hv : vs[j.toNatClampNeg]? = some v) (w : oWin p e below Z h0 Q E (T.setTop (mkF m pc' ls (v :: st)))) : oWin p e below Z h0 Q E (T.setTop (mkF m pc ls (.int j :: .ref a :: st))) := by
  subst hp
  obtain ⟨hx, hZ, hlk, locs, X, N, H⟩ := B
  obtain ⟨-, c', A, e, -⟩ := H.at hi
  obtain ⟨q1, q2⟩ := oIn e hj hv
  exact w.step fun t k => X.iaload hx A.1 (State.isArrayOf_alike hZ.alike A.2.1) A.2.2 q1 q2 (g := mkF m pc ls (.int j :: .ref a :: st)) rfl rfl hd t k
theorem W_laload (B : oB p l e R s m args below meth c Z h0 lo T cells slots ds) {i : Nat} {a : Addr} {vs : List Value} {j : Int32} {v : Value} (hd : decode c.code pc = .ok (.laload, 1)) (hp : pc + 1 = pc') (hi : ds[i]? = some (a, oA .long vs)) (hj : ¬ j < 0) (hv : vs[j.toNatClampNeg]? = some v) (w : oWin p e below Z h0 Q E (T.setTop (mkF m pc' ls (v :: st)))) : oWin p e below Z h0 Q E (T.setTop (mkF m pc ls (.int j :: .ref a :: st))) := by
  subst hp
  obtain ⟨hx, hZ, hlk, locs, X, N, H⟩ := B
  obtain ⟨-, c', A, e, -⟩ := H.at hi
  obtain ⟨q1, q2⟩ := oIn e hj hv
  exact w.step fun t k => X.laload hx A.1 (State.isArrayOf_alike hZ.alike A.2.1) A.2.2 q1 q2 (g := mkF m pc ls (.int j :: .ref a :: st)) rfl rfl hd t k
theorem W_baload (B : oB p l e R s m args below meth c Z h0 lo T cells slots ds) {i : Nat} {a : Addr} {vs : List Value} {j : Int32} {v : Value} (hd : decode c.code pc = .ok (.baload, 1)) (hp : pc + 1 = pc') (hi : ds[i]? = some (a, oA .byte vs)) (hj : ¬ j < 0) (hv : vs[j.toNatClampNeg]? = some v) (w : oWin p e below Z h0 Q E (T.setTop (mkF m pc' ls (v :: st)))) : oWin p e below Z h0 Q E (T.setTop (mkF m pc ls (.int j :: .ref a :: st))) := by
  subst hp
  obtain ⟨hx, hZ, hlk, locs, X, N, H⟩ := B
  obtain ⟨-, c', A, e, -⟩ := H.at hi
  obtain ⟨q1, q2⟩ := oIn e hj hv
  exact w.step fun t k => X.baloadBytes hx A.1 (State.isArrayOf_alike hZ.alike A.2.1) A.2.2 q1 q2 (g := mkF m pc ls (.int j :: .ref a :: st)) rfl rfl hd t k
theorem W_caload (B : oB p l e R s m args below meth c Z h0 lo T cells slots ds) {i : Nat} {a : Addr} {vs : List Value} {j : Int32} {v : Value} (hd : decode c.code pc = .ok (.caload, 1)) (hp : pc + 1 = pc') (hi : ds[i]? = some (a, oA .char vs)) (hj : ¬ j < 0) (hv : vs[j.toNatClampNeg]? = some v) (w : oWin p e below Z h0 Q E (T.setTop (mkF m pc' ls (v :: st)))) : oWin p e below Z h0 Q E (T.setTop (mkF m pc ls (.int j :: .ref a :: st))) := by
  subst hp
  obtain ⟨hx, hZ, hlk, locs, X, N, H⟩ := B
  obtain ⟨-, c', A, e, -⟩ := H.at hi
  obtain ⟨q1, q2⟩ := oIn e hj hv
  exact w.step fun t k => X.caload hx A.1 (State.isArrayOf_alike hZ.alike A.2.1) A.2.2 q1 q2 (g := mkF m pc ls (.int j :: .ref a :: st)) rfl rfl hd t k
theorem W_aaload (B : oB p l e R s m args below meth c Z h0 lo T cells slots ds) {i : Nat} {a : Addr} {ty : FieldType} {vs : List Value} {j : Int32} {v : Value} (hd : decode c.code pc = .ok (.aaload, 1)) (hp : pc + 1 = pc') (hi : ds[i]? = some (a, oA ty vs)) (hty : ty.isReference = true) (hj : ¬ j < 0) (hv : vs[j.toNatClampNeg]? = some v) (w : oWin p e below Z h0 Q E (T.setTop (mkF m pc' ls (v :: st)))) : oWin p e below Z h0 Q E (T.setTop (mkF m pc ls (.int j :: .ref a :: st))) := by
  subst hp
  obtain ⟨hx, hZ, hlk, locs, X, N, H⟩ := B
  obtain ⟨-, c', A, e, -⟩ := H.at hi
  obtain ⟨q1, q2⟩ := oIn e hj hv
  exact w.step fun t k => X.aaload hx A.1 (State.isArrayOf_alike hZ.alike A.2.1) hty A.2.2 q1 q2 (g := mkF m pc ls (.int j :: .ref a :: st)) rfl rfl hd t k
theorem W_iastore (B : oB p l e R s m args below meth c Z h0 lo T cells slots ds) {i : Nat} {a : Addr} {vs : List Value} {j : Int32} {x : Int32} (hd : decode c.code pc = .ok (.iastore, 1)) (hp : pc + 1 = pc') (hi : ds[i]? = some (a, oA .int vs)) (hj : ¬ j < 0) (hv : j.toNatClampNeg < vs.length) (hds : ds.set i (a, oA .int (vs.set j.toNatClampNeg (.int x))) = ds') (k : ∀ T, oB p l e R s m args below meth c Z h0 lo T cells slots ds' → oWin p e below Z h0 Q E (T.setTop (mkF m pc' ls st))) : oWin p e below Z h0 Q E (T.setTop (mkF m pc ls (.int x :: .int j :: .ref a :: st))) := by
  subst hp hds
  obtain ⟨hx, hZ, hlk, locs, X, N, H⟩ := B
  obtain ⟨ha, I⟩ := H.at hi
  have I' := I
  obtain ⟨c', A, e, -⟩ := I'
  obtain ⟨q1, -⟩ := oIn e hj (List.getElem?_eq_getElem hv)
  obtain ⟨T', h', X', e', W, stp⟩ := stI X hx hZ rfl A q1 (g := mkF m pc ls (.int x :: .int j :: .ref a :: st)) rfl rfl hd
  subst e'
  exact (k T' ⟨hx, hZ, hlk, _, X', Fr.snoc X' N ha, H.wr hi W (I.store W rfl)⟩).step stp
theorem W_lastore (B : oB p l e R s m args below meth c Z h0 lo T cells slots ds) {i : Nat} {a : Addr} {vs : List Value} {j : Int32} {x : Int64} (hd : decode c.code pc = .ok (.lastore, 1)) (hp : pc + 1 = pc') (hi : ds[i]? = some (a, oA .long vs)) (hj : ¬ j < 0) (hv : j.toNatClampNeg < vs.length) (hds : ds.set i (a, oA .long (vs.set j.toNatClampNeg (.long x))) = ds') (k : ∀ T, oB p l e R s m args below meth c Z h0 lo T cells slots ds' → oWin p e below Z h0 Q E (T.setTop (mkF m pc' ls st))) : oWin p e below Z h0 Q E (T.setTop (mkF m pc ls (.long x :: .int j :: .ref a :: st))) := by
  subst hp hds
  obtain ⟨hx, hZ, hlk, locs, X, N, H⟩ := B
  obtain ⟨ha, I⟩ := H.at hi
  have I' := I
  obtain ⟨c', A, e, -⟩ := I'
  obtain ⟨q1, -⟩ := oIn e hj (List.getElem?_eq_getElem hv)
  obtain ⟨T', h', X', e', W, stp⟩ := stJ X hx hZ rfl A q1 (g := mkF m pc ls (.long x :: .int j :: .ref a :: st)) rfl rfl hd
  subst e'
  exact (k T' ⟨hx, hZ, hlk, _, X', Fr.snoc X' N ha, H.wr hi W (I.store W rfl)⟩).step stp
theorem W_bastore (B : oB p l e R s m args below meth c Z h0 lo T cells slots ds) {i : Nat} {a : Addr} {vs : List Value} {j : Int32} {x : Int32} (hd : decode c.code pc = .ok (.bastore, 1)) (hp : pc + 1 = pc') (hi : ds[i]? = some (a, oA .byte vs)) (hj : ¬ j < 0) (hv : j.toNatClampNeg < vs.length) (hds : ds.set i (a, oA .byte (vs.set j.toNatClampNeg (.int (nar .byte x)))) = ds') (k : ∀ T, oB p l e R s m args below meth c Z h0 lo T cells slots ds' → oWin p e below Z h0 Q E (T.setTop (mkF m pc' ls st))) : oWin p e below Z h0 Q E (T.setTop (mkF m pc ls (.int x :: .int j :: .ref a :: st))) := by
  subst hp hds
  obtain ⟨hx, hZ, hlk, locs, X, N, H⟩ := B
  obtain ⟨ha, I⟩ := H.at hi
  have I' := I
  obtain ⟨c', A, e, -⟩ := I'
  obtain ⟨q1, -⟩ := oIn e hj (List.getElem?_eq_getElem hv)
  obtain ⟨T', h', X', e', W, stp⟩ := stB X hx hZ rfl A q1 (g := mkF m pc ls (.int x :: .int j :: .ref a :: st)) rfl rfl hd
  subst e'
  exact (k T' ⟨hx, hZ, hlk, _, X', Fr.snoc X' N ha, H.wr hi W (I.store W (fits_nar_byte x))⟩).step stp
theorem W_castore (B : oB p l e R s m args below meth c Z h0 lo T cells slots ds) {i : Nat} {a : Addr} {vs : List Value} {j : Int32} {x : Int32} (hd : decode c.code pc = .ok (.castore, 1)) (hp : pc + 1 = pc') (hi : ds[i]? = some (a, oA .char vs)) (hj : ¬ j < 0) (hv : j.toNatClampNeg < vs.length) (hds : ds.set i (a, oA .char (vs.set j.toNatClampNeg (.int (nar .char x)))) = ds') (k : ∀ T, oB p l e R s m args below meth c Z h0 lo T cells slots ds' → oWin p e below Z h0 Q E (T.setTop (mkF m pc' ls st))) : oWin p e below Z h0 Q E (T.setTop (mkF m pc ls (.int x :: .int j :: .ref a :: st))) := by
  subst hp hds
  obtain ⟨hx, hZ, hlk, locs, X, N, H⟩ := B
  obtain ⟨ha, I⟩ := H.at hi
  have I' := I
  obtain ⟨c', A, e, -⟩ := I'
  obtain ⟨q1, -⟩ := oIn e hj (List.getElem?_eq_getElem hv)
  obtain ⟨T', h', X', e', W, stp⟩ := stC X hx hZ rfl A q1 (g := mkF m pc ls (.int x :: .int j :: .ref a :: st)) rfl rfl hd
  subst e'
  exact (k T' ⟨hx, hZ, hlk, _, X', Fr.snoc X' N ha, H.wr hi W (I.store W (fits_nar_char x))⟩).step stp
theorem W_aastore (B : oB p l e R s m args below meth c Z h0 lo T cells slots ds) {i i2 : Nat} {a b : Addr} {C C2 : String} {fs : List (oFK × Value)} {vs : List Value} {j : Int32} (hd : decode c.code pc = .ok (.aastore, 1)) (hp : pc + 1 = pc') (hi : ds[i]? = some (a, oA (.object C) vs)) (hj : ¬ j < 0) (hv : j.toNatClampNeg < vs.length) (hb : ds[i2]? = some (b, oO C2 fs)) (hins : C2 = C ∨ (Jvm.Cond.castable C2 C).before a0 Z = true) (hds : ds.set i (a, oA (.object C) (vs.set j.toNatClampNeg (.ref b))) = ds') (k : ∀ T, oB p l e R s m args below meth c Z h0 lo T cells slots ds' → oWin p e below Z h0 Q E (T.setTop (mkF m pc' ls st))) : oWin p e below Z h0 Q E (T.setTop (mkF m pc ls (.ref b :: .int j :: .ref a :: st))) := by
  subst hp hds
  obtain ⟨hx, hZ, hlk, locs, X, N, H⟩ := B
  obtain ⟨ha, I⟩ := H.at hi
  have I' := I
  obtain ⟨c', A, e, O, -⟩ := I'
  obtain ⟨q1, -⟩ := oIn e hj (List.getElem?_eq_getElem hv)
  have E2 := (H.at hb).2.1
  have J : Ins Z T.heap b C true := by
    rcases hins with q | q
    · subst q; exact Ins.self E2
    · exact Ins.of_exa E2 q
  obtain ⟨T', h', X', e', W, stp⟩ := stR X hx hZ rfl A q1 rfl (Sto.of A (O C rfl) J) (g := mkF m pc ls (.ref b :: .int j :: .ref a :: st)) rfl rfl hd
  subst e'
  exact (k T' ⟨hx, hZ, hlk, _, X', Fr.snoc X' N ha, H.wr hi W (I.store W rfl)⟩).step stp
theorem W_initO (B : oB p l e R s m args below meth c Z h0 lo T cells slots ds) {own : String} {i : Nat} {a : Addr} {W : Nat} (hown : s.vm.findClass own = some m.cls) (w1 : (Jvm.Cond.methodLink own i Lib.objectInit).before a0 Z = true) (w2 : (Jvm.Cond.instanceMethod Lib.objectInit).before a0 Z = true) (w3 : (Jvm.Cond.code Lib.objectInit ⟨#[0xb1]⟩ 1 none).before a0 Z = true) (hd : decode c.code pc = .ok (.invokespecial i, 3)) (hp : pc + 3 = pc') (hsz : ls.size = c.maxLocals) (hW : (st.map fun v => v.category).sum ≤ W) (hr : 1 ≤ R.frames ∧ W + 12 ≤ R.locals)
    (k : ∀ T, oB p l e R s m args below meth c Z h0 lo T cells slots ds → oWin p e below Z h0 Q E (T.setTop (mkF m pc' ls st))) : oWin p e below Z h0 Q E (T.setTop (mkF m pc ls (.ref a :: st))) := by
  subst hp
  obtain ⟨hx, hZ, hlk, locs, X, N, H⟩ := B
  obtain ⟨T', X', e', stp⟩ := initO X hx hZ hown w1 w2 w3 rfl (g := mkF m pc ls (.ref a :: st)) rfl hsz rfl hd hr.1 (W := W) (by simpa using hW) hr.2
  exact (k T' ⟨hx, hZ, hlk, locs, X', N, e' ▸ H⟩).step stp
theorem W_callS (B : oB p l e R s m args below meth c Z h0 lo T cells slots ds) {own : String} {i : Nat} {y : MethodName} {bytes : ByteArray} {maxL : Nat} {ret : Option FieldType} {rm : Room} {Q' : Option Value → oDs → Prop} {argsL rest : List Value} {W : Nat} (hown : s.vm.findClass own = some m.cls) (w1 : (Jvm.Cond.methodLink own i y).before a0 Z = true) (w2 : (Jvm.Cond.static y).before a0 Z = true) (w3 : (Jvm.Cond.initialized y.cls).before a0 Z = true) (w4 : (Jvm.Cond.code y bytes maxL ret).before a0 Z = true) (hy : y.cls ≠ "java/lang/invoke/MethodHandle" ∧ y.cls ≠ "java/lang/invoke/VarHandle")
    (hM : oMet l Z h0 lo y bytes maxL ret [] rm argsL.toArray ds Q') (hlen : ∀ sig, parseMethodDescriptor y.desc = some sig → argsL.length = sig.parameters.length) (hd : decode c.code pc = .ok (.invokestatic i, 3)) (hp : pc + 3 = pc') (hst : st = argsL.reverse ++ rest) (hsz : ls.size = c.maxLocals) (hW : (rest.map fun v => v.category).sum ≤ W)
    (hr : rm.frames + 1 ≤ R.frames ∧ W + (maxL + 11) + rm.locals ≤ R.locals ∧ cells + rm.cells ≤ R.cells ∧ slots + rm.slots ≤ R.slots) {cells' slots' : Nat} (hc' : cells + rm.cells = cells') (hs' : slots + rm.slots = slots')
    (k : ∀ T v ds', Q' v ds' → oB p l e R s m args below meth c Z h0 lo T cells' slots' ds' → oWin p e below Z h0 Q E (T.setTop (mkF m pc' ls (v.toList ++ rest)))) : oWin p e below Z h0 Q E (T.setTop (mkF m pc ls st)) := by
  subst hp hst hc' hs'
  obtain ⟨hx, hZ, hlk, locs, X, N, H⟩ := B
  obtain ⟨v, vm1, ⟨T', L', k', n'⟩, -, X', ⟨Lc, ⟨N', ds', H', hQ⟩, e1, e2, e3⟩, stp⟩ := Jvm.LawKit.callS X hx (y := y) hown (mvT hZ w1) (mvT hZ w2) (mvT hZ w3) (mvT hZ w4) hy (backOf (W := W) (Q := fun v h L => Fr h0.size L ∧ ∃ ds', oHP Z h0 lo h ds' ∧ Q' v ds') (hM _ H) hZ w4 w3 hr.1 hr.2.1) (g := mkF m pc ls (argsL.reverse ++ rest)) rfl hsz hlen rfl (by simpa using hW) hd (fun _ _ => ⟨rfl, rfl, hr.2.2.1, hr.2.2.2⟩)
  dsimp only [Pt.U, Pt.locs, Pt.cells, Pt.slots] at X' e1 e2 e3 stp H'
  subst e1 e2 e3
  exact (k T' v ds' hQ ⟨hx, hZ, hlk, _, X', N.app N', H'⟩).step stp
theorem W_init (B : oB p l e R s m args below meth c Z h0 lo T cells slots ds) {own : String} {i : Nat} {y : MethodName} {bytes : ByteArray} {maxL : Nat} {rm : Room} {Q' : Option Value → oDs → Prop} {a : Addr} {argsL rest : List Value} {W : Nat} (hown : s.vm.findClass own = some m.cls) (hy1 : y.name = "<init>") (w1 : (Jvm.Cond.methodLink own i y).before a0 Z = true) (w2 : (Jvm.Cond.instanceMethod y).before a0 Z = true) (w3 : (Jvm.Cond.initialized y.cls).before a0 Z = true) (w4 : (Jvm.Cond.code y bytes maxL none).before a0 Z = true) (hy : y.cls ≠ "java/lang/invoke/MethodHandle" ∧ y.cls ≠ "java/lang/invoke/VarHandle")
    (hM : oMet l Z h0 lo y bytes maxL none [] rm (.ref a :: argsL).toArray ds Q') (hlen : ∀ sig, parseMethodDescriptor y.desc = some sig → argsL.length = sig.parameters.length) (hd : decode c.code pc = .ok (.invokespecial i, 3)) (hp : pc + 3 = pc') (hst : st = argsL.reverse ++ .ref a :: rest) (hsz : ls.size = c.maxLocals) (hW : (rest.map fun v => v.category).sum ≤ W)
    (hr : rm.frames + 1 ≤ R.frames ∧ W + (maxL + 11) + rm.locals ≤ R.locals ∧ cells + rm.cells ≤ R.cells ∧ slots + rm.slots ≤ R.slots) {cells' slots' : Nat} (hc' : cells + rm.cells = cells') (hs' : slots + rm.slots = slots')
    (k : ∀ T v ds', Q' v ds' → oB p l e R s m args below meth c Z h0 lo T cells' slots' ds' → oWin p e below Z h0 Q E (T.setTop (mkF m pc' ls (v.toList ++ rest)))) : oWin p e below Z h0 Q E (T.setTop (mkF m pc ls st)) := by
  subst hp hst hc' hs'
  obtain ⟨hx, hZ, hlk, locs, X, N, H⟩ := B
  obtain ⟨v, vm1, ⟨T', L', k', n'⟩, -, X', ⟨Lc, ⟨N', ds', H', hQ⟩, e1, e2, e3⟩, stp⟩ := X.specialBack hx (y := y) hy1 hown (mvT hZ w1) (mvT hZ w2) (mvT hZ w4) hy (backOf (W := W) (Q := fun v h L => Fr h0.size L ∧ ∃ ds', oHP Z h0 lo h ds' ∧ Q' v ds') (hM _ H) hZ w4 w3 hr.1 hr.2.1) (g := mkF m pc ls (argsL.reverse ++ .ref a :: rest)) rfl hsz (Steps.refl _) (a := a) hlen rfl (by simpa using hW) hd (fun _ _ => ⟨rfl, rfl, hr.2.2.1, hr.2.2.2⟩)
  dsimp only [Pt.U, Pt.locs, Pt.cells, Pt.slots] at X' e1 e2 e3 stp H'
  subst e1 e2 e3
  exact (k T' v ds' hQ ⟨hx, hZ, hlk, _, X', N.app N', H'⟩).steps stp
theorem W_virtual (B : oB p l e R s m args below meth c Z h0 lo T cells slots ds) {own C : String} {i j : Nat} {y z : MethodName} {bytes : ByteArray} {maxL : Nat} {ret : Option FieldType} {rm : Room} {Q' : Option Value → oDs → Prop} {a : Addr} {fs : List (oFK × Value)} {argsL rest : List Value} {W : Nat} (hown : s.vm.findClass own = some m.cls) (w1 : (Jvm.Cond.methodLink own i y).before a0 Z = true) (w2 : (Jvm.Cond.declares y).before a0 Z = true) (hnf : NotFace s y) (ws : (Jvm.Cond.selects C y z).before a0 Z = true) (wm : (Jvm.Cond.instanceMethod z).before a0 Z = true) (w3 : (Jvm.Cond.initialized z.cls).before a0 Z = true) (w4 : (Jvm.Cond.code z bytes maxL ret).before a0 Z = true) (hy : y.cls ≠ "java/lang/invoke/MethodHandle" ∧ y.cls ≠ "java/lang/invoke/VarHandle")
    (hM : oMet l Z h0 lo z bytes maxL ret [] rm (.ref a :: argsL).toArray ds Q') (hlen : ∀ sig, parseMethodDescriptor y.desc = some sig → argsL.length = sig.parameters.length) (hd : decode c.code pc = .ok (.invokevirtual i, 3)) (hp : pc + 3 = pc') (hst : st = argsL.reverse ++ .ref a :: rest) (hsz : ls.size = c.maxLocals) (hW : (rest.map fun v => v.category).sum ≤ W) (hi : ds[j]? = some (a, oO C fs))
    (hr : rm.frames + 1 ≤ R.frames ∧ W + (maxL + 11) + rm.locals ≤ R.locals ∧ cells + rm.cells ≤ R.cells ∧ slots + rm.slots ≤ R.slots) {cells' slots' : Nat} (hc' : cells + rm.cells = cells') (hs' : slots + rm.slots = slots')
    (k : ∀ T v ds', Q' v ds' → oB p l e R s m args below meth c Z h0 lo T cells' slots' ds' → oWin p e below Z h0 Q E (T.setTop (mkF m pc' ls (v.toList ++ rest)))) : oWin p e below Z h0 Q E (T.setTop (mkF m pc ls st)) := by
  subst hp hst hc' hs'
  obtain ⟨hx, hZ, hlk, locs, X, N, H⟩ := B
  obtain ⟨cq, kq, q1, q2, q3⟩ := isOf (T := T) hZ rfl (H.at hi).2.1
  obtain ⟨v, vm1, ⟨T', L', k', n'⟩, -, X', ⟨Lc, ⟨N', ds', H', hQ⟩, e1, e2, e3⟩, stp⟩ := X.virtualBack hx (y := y) (z := z) hown (mvT hZ w1) (mvT hZ w2) hnf (mvT hZ ws) (mvT hZ wm) hy (backOf (W := W) (Q := fun v h L => Fr h0.size L ∧ ∃ ds', oHP Z h0 lo h ds' ∧ Q' v ds') (hM _ H) hZ w4 w3 hr.1 hr.2.1) q1 q3 (g := mkF m pc ls (argsL.reverse ++ .ref a :: rest)) rfl hsz (Steps.refl _) hlen rfl (by simpa using hW) hd (fun _ _ => ⟨rfl, rfl, hr.2.2.1, hr.2.2.2⟩)
  dsimp only [Pt.U, Pt.locs, Pt.cells, Pt.slots] at X' e1 e2 e3 stp H'
  subst e1 e2 e3
  exact (k T' v ds' hQ ⟨hx, hZ, hlk, _, X', N.app N', H'⟩).steps stp
theorem oNotFace (B : oB p l e R s m args below meth c Z h0 lo T cells slots ds) {C : String} {y z : MethodName} (ws : (Jvm.Cond.selects C y z).before a0 Z = true) (hyz : y = z) : NotFace s y := by
  subst hyz; exact notFace_of_selects (args := #[]) (mvT B.2.1 ws)
theorem oWin.leave (B : oB p l e R s m args below meth c Z h0 lo T cells slots ds) {v : Option Value} {S : State} (hv : meth.sig.returnType = none → v = none) (hq : Q v ds) (hr : cells ≤ kc ∧ slots ≤ ks) (hstep : ∀ fs, (∀ (f : JFrame) (acts : List Action), f.method = m → f.locked = none → f.entered = [] → (doReturn e (T.setTop f) acts v).1 = T.setFrames fs) → Steps p.tables e below S (T.setFrames fs)) : oWin p e below Z h0 Q (oFE s lo kc ks) S := by
  obtain ⟨hx, hZ, hlk, locs, X, N, H⟩ := B
  obtain ⟨fs, hrr, hrun, hended, hW, hsame⟩ := X.leave (v := v) hv hlk
  exact ⟨_, _, hstep fs hrr, hrun, hended, v, locs, rfl, ⟨N, lo, ds, H, hq⟩, H.1.2, ⟨_, rfl⟩, hW, hsame.mono hr.1 hr.2⟩
theorem oWin.leaveW {vm₁ : Vm} (B : oB p l e R (s.setVm vm₁) m args below meth c Z h0 lo T cells slots ds) (hS : s.Since vm₁ lo) {v : Option Value} {S : State} (hv : meth.sig.returnType = none → v = none) (hq : Q v ds) (hr : cells ≤ kc ∧ slots ≤ ks) (hstep : ∀ fs, (∀ (f : JFrame) (acts : List Action), f.method = m → f.locked = none → f.entered = [] → (doReturn e (T.setTop f) acts v).1 = T.setFrames fs) → Steps p.tables e below S (T.setFrames fs)) : oWin p e below Z h0 Q (oFW s kc ks) S := by
  obtain ⟨hx, hZ, hlk, locs, X, N, H⟩ := B
  obtain ⟨fs, hrr, hrun, hended, h1, h2, h3, h4⟩ := X.leaveW hS H.1.2 (v := v) hv hlk
  exact ⟨_, _, hstep fs hrr, hrun, hended, v, locs, rfl, ⟨N, lo, ds, H, hq⟩, h1, h2, h3, h4.mono hr.1 hr.2⟩
theorem W_retNW {vm₁ : Vm} (B : oB p l e R (s.setVm vm₁) m args below meth c Z h0 lo T cells slots ds) (hS : s.Since vm₁ lo) {z : Int32} {t : FieldType} (hret : meth.sig.returnType = some t) (ht : t = .boolean ∨ t = .byte ∨ t = .char ∨ t = .short) (hd : decode c.code pc = .ok (.ireturn, 1)) (hr : cells ≤ kc ∧ slots ≤ ks) (hq : Q (some (.int (nar t z))) ds) : oWin p e below Z h0 Q (oFW s kc ks) (T.setTop (mkF m pc ls (.int z :: st))) := by
  have B' := B
  obtain ⟨hx, hZ, hlk, locs, X, N, H⟩ := B'
  exact oWin.leaveW B hS (v := some (.int (nar t z))) (fun h => by rw [hret] at h; cases h) hq hr fun fs hl => retN X hx hret ht hd hl
theorem W_ldcStr {vm₀ : Vm} (B : oB p l e R (s.setVm vm₀) m args below meth c Z h0 lo T cells slots ds) (hS : s.Since vm₀ lo) {own text : String} {i n : Nat} (hown : (s.setVm vm₀).vm.findClass own = some m.cls) (w : (Jvm.Cond.stringLink own i text).before a0 Z = true) (wS : ∀ a ∈ Bundle.stringAtoms, a.before a0 Z = true) (hd : decode c.code pc = .ok (.ldc i, 2)) (hp : pc + 2 = pc') (hn : 4 * text.toList.length ≤ n) (hr : n ≤ 536870912 ∧ cells + 2 ≤ R.cells ∧ slots + (n + 4) ≤ R.slots) {cells' slots' : Nat} (hc' : cells + 2 = cells') (hs' : slots + (n + 4) = slots')
    (k : ∀ T a vm₁ lo', oB p l e R (s.setVm vm₁) m args below meth c Z h0 lo' T cells' slots' ds → s.Since vm₁ lo' → (s.setVm vm₁).vm.findClass own = some m.cls → oWin p e below Z h0 Q E (T.setTop (mkF m pc' ls (.ref a :: st)))) : oWin p e below Z h0 Q E (T.setTop (mkF m pc ls st)) := by
  subst hp hc' hs'
  obtain ⟨hx, hZ, hlk, locs, X, N, H⟩ := B
  obtain ⟨a, T', h', k1, X', e', E1, hS', hk1, hZ', hown', stp⟩ := ldcS X hx hZ hown w wS rfl hS H.1.2 (g := mkF m pc ls st) rfl hd hn hr.1 hr.2.1 hr.2.2
  subst e'
  exact (k T' a T'.vm k1 ⟨hx, hZ', hlk, locs, X', N, H.more E1 hk1⟩ hS' hown').step stp
theorem W_retI (B : oB p l e R s m args below meth c Z h0 lo T cells slots ds) {z : Int32} (hret : meth.sig.returnType = some .int) (hd : decode c.code pc = .ok (.ireturn, 1)) (hr : cells ≤ kc ∧ slots ≤ ks) (hq : Q (some (.int z)) ds) : oWin p e below Z h0 Q (oFE s lo kc ks) (T.setTop (mkF m pc ls (.int z :: st))) := by
  have B' := B
  obtain ⟨hx, hZ, hlk, locs, X, N, H⟩ := B'
  refine oWin.leave B (v := some (.int z)) (fun h => by rw [hret] at h; cases h) hq hr fun fs hl => ?_
  have hm' : T.vm.method? m = some meth := X.method'
  have hn : narrow .int (.int z) = .int z := rfl
  show Steps p.tables e below (T.setTop { method := m, pc := pc, locals := ls, stack := _ :: st, locked := none }) _
  jvm_step X.here [X.here.top, hx, hd, hm', hret, hn]
  first | (intro acts; rw [hl _ acts rfl rfl rfl]) | rw [hl _ _ rfl rfl rfl]
  exact Steps.refl _
theorem W_retL (B : oB p l e R s m args below meth c Z h0 lo T cells slots ds) {z : Int64} (hret : meth.sig.returnType = some .long) (hd : decode c.code pc = .ok (.lreturn, 1)) (hr : cells ≤ kc ∧ slots ≤ ks) (hq : Q (some (.long z)) ds) : oWin p e below Z h0 Q (oFE s lo kc ks) (T.setTop (mkF m pc ls (.long z :: st))) := by
  have B' := B
  obtain ⟨hx, hZ, hlk, locs, X, N, H⟩ := B'
  refine oWin.leave B (v := some (.long z)) (fun h => by rw [hret] at h; cases h) hq hr fun fs hl => ?_
  have hm' : T.vm.method? m = some meth := X.method'
  show Steps p.tables e below (T.setTop { method := m, pc := pc, locals := ls, stack := _ :: st, locked := none }) _
  jvm_step X.here [X.here.top, hx, hd, hm', hret, narrow]
  first | (intro acts; rw [hl _ acts rfl rfl rfl]) | rw [hl _ _ rfl rfl rfl]
  exact Steps.refl _
theorem W_retN (B : oB p l e R s m args below meth c Z h0 lo T cells slots ds) {z : Int32} {t : FieldType} (hret : meth.sig.returnType = some t) (ht : t = .boolean ∨ t = .byte ∨ t = .char ∨ t = .short) (hd : decode c.code pc = .ok (.ireturn, 1)) (hr : cells ≤ kc ∧ slots ≤ ks) (hq : Q (some (.int (nar t z))) ds) : oWin p e below Z h0 Q (oFE s lo kc ks) (T.setTop (mkF m pc ls (.int z :: st))) := by
  have B' := B
  obtain ⟨hx, hZ, hlk, locs, X, N, H⟩ := B'
  exact oWin.leave B (v := some (.int (nar t z))) (fun h => by rw [hret] at h; cases h) hq hr fun fs hl => retN X hx hret ht hd hl
theorem W_retV (B : oB p l e R s m args below meth c Z h0 lo T cells slots ds) (hret : meth.sig.returnType = none) (hd : decode c.code pc = .ok (.return_, 1)) (hr : cells ≤ kc ∧ slots ≤ ks) (hq : Q none ds) : oWin p e below Z h0 Q (oFE s lo kc ks) (T.setTop (mkF m pc ls [])) := by
  have B' := B
  obtain ⟨hx, hZ, hlk, locs, X, N, H⟩ := B'
  exact oWin.leave B (v := none) (fun _ => rfl) hq hr fun fs hl => X.returnOut hx hret hd hl
theorem W_retA (B : oB p l e R s m args below meth c Z h0 lo T cells slots ds) {v : Value} {t : FieldType} (hret : meth.sig.returnType = some t) (ht : t.isReference = true) (hv : v.isRef = true) (hd : decode c.code pc = .ok (.areturn, 1)) (hr : cells ≤ kc ∧ slots ≤ ks) (hq : Q (some v) ds) : oWin p e below Z h0 Q (oFE s lo kc ks) (T.setTop (mkF m pc ls (v :: st))) := by
  have B' := B
  obtain ⟨hx, hZ, hlk, locs, X, N, H⟩ := B'
  refine oWin.leave B (v := some v) (fun h => by rw [hret] at h; cases h) hq hr fun fs hl => ?_
  have hm' : T.vm.method? m = some meth := X.method'
  show Steps p.tables e below (T.setTop { method := m, pc := pc, locals := ls, stack := _ :: st, locked := none }) _
  cases v <;> simp [Value.isRef] at hv
  all_goals
    jvm_step X.here [X.here.top, hx, hd, hm', hret, Value.isRef, FieldType.isReference, ht]
    refine ⟨ht, fun acts => ?_⟩
    rw [hl _ acts rfl rfl rfl]
    exact Steps.refl _
theorem oB_ne (B : oB p l e R s m args below meth c Z h0 lo T cells slots ds) {i j : Nat} {x y : Addr × oD} (hi : ds[i]? = some x) (hj : ds[j]? = some y) (ne : i ≠ j) : x.1 ≠ y.1 := by
  obtain ⟨hx, hZ, hlk, locs, X, N, H⟩ := B
  exact H.ne hi hj ne
theorem oB_new (B : oB p l e R s m args below meth c Z h0 lo T cells slots ds) {i : Nat} {x : Addr × oD} (hi : ds[i]? = some x) : h0.size ≤ x.1 := by
  obtain ⟨hx, hZ, hlk, locs, X, N, H⟩ := B
  exact (H.at (a := x.1) (d := x.2) hi).1
theorem oJoin (B : oB p l e R s m args below meth c Z h0 lo T cells slots ds) {α : Type} (P : α → Prop) (f : α → JFrame) {g : JFrame} (h1 : (∀ z T', P z → oB p l e R s m args below meth c Z h0 lo T' cells slots ds → oWin p e below Z h0 Q E (T'.setTop (f z))) → oWin p e below Z h0 Q E (T.setTop g)) (h2 : ∀ z T', P z → oB p l e R s m args below meth c Z h0 lo T' cells slots ds → oWin p e below Z h0 Q E (T'.setTop (f z))) : oWin p e below Z h0 Q E (T.setTop g) := h1 h2
theorem oJoinD (B : oB p l e R s m args below meth c Z h0 lo T cells slots ds) {α : Type} (cells' slots' : Nat) (P : α → Prop) (f : α → JFrame) (D : α → oDs) {g : JFrame} (h1 : (∀ z T', P z → oB p l e R s m args below meth c Z h0 lo T' cells' slots' (D z) → oWin p e below Z h0 Q E (T'.setTop (f z))) → oWin p e below Z h0 Q E (T.setTop g)) (h2 : ∀ z T', P z → oB p l e R s m args below meth c Z h0 lo T' cells' slots' (D z) → oWin p e below Z h0 Q E (T'.setTop (f z))) : oWin p e below Z h0 Q E (T.setTop g) := h1 h2
theorem oNatLt {x : Int32} {k : Nat} (h : x.toInt < k) (hk : 0 < k) : x.toNatClampNeg < k := by
  show x.toInt.toNat < k
  omega
theorem W_virtualOld (B : oB p l e R s m args below meth c Z h0 lo T cells slots ds) {own C : String} {i : Nat} {y z : MethodName} {bytes : ByteArray} {maxL : Nat} {ret : Option FieldType} {rm : Room} {Q' : Option Value → oDs → Prop} {a : Addr} {argsL rest : List Value} {W : Nat} (hown : s.vm.findClass own = some m.cls) (w1 : (Jvm.Cond.methodLink own i y).before a0 Z = true) (w2 : (Jvm.Cond.declares y).before a0 Z = true) (hnf : NotFace s y) (ws : (Jvm.Cond.selects C y z).before a0 Z = true) (wm : (Jvm.Cond.instanceMethod z).before a0 Z = true) (w3 : (Jvm.Cond.initialized z.cls).before a0 Z = true) (w4 : (Jvm.Cond.code z bytes maxL ret).before a0 Z = true) (hy : y.cls ≠ "java/lang/invoke/MethodHandle" ∧ y.cls ≠ "java/lang/invoke/VarHandle")
    (hM : oMet l Z h0 lo z bytes maxL ret [] rm (.ref a :: argsL).toArray ds Q') (hlen : ∀ sig, parseMethodDescriptor y.desc = some sig → argsL.length = sig.parameters.length) (hd : decode c.code pc = .ok (.invokevirtual i, 3)) (hp : pc + 3 = pc') (hst : st = argsL.reverse ++ .ref a :: rest) (hsz : ls.size = c.maxLocals) (hW : (rest.map fun v => v.category).sum ≤ W) (hE : Exa Z h0 a C)
    (hr : rm.frames + 1 ≤ R.frames ∧ W + (maxL + 11) + rm.locals ≤ R.locals ∧ cells + rm.cells ≤ R.cells ∧ slots + rm.slots ≤ R.slots) {cells' slots' : Nat} (hc' : cells + rm.cells = cells') (hs' : slots + rm.slots = slots')
    (k : ∀ T v ds', Q' v ds' → oB p l e R s m args below meth c Z h0 lo T cells' slots' ds' → oWin p e below Z h0 Q E (T.setTop (mkF m pc' ls (v.toList ++ rest)))) : oWin p e below Z h0 Q E (T.setTop (mkF m pc ls st)) := by
  subst hp hst hc' hs'
  obtain ⟨hx, hZ, hlk, locs, X, N, H⟩ := B
  obtain ⟨cq, kq, q1, q2, q3⟩ := isOf (T := T) hZ rfl (hE.ext H.1.1)
  obtain ⟨v, vm1, ⟨T', L', k', n'⟩, -, X', ⟨Lc, ⟨N', ds', H', hQ⟩, e1, e2, e3⟩, stp⟩ := X.virtualBack hx (y := y) (z := z) hown (mvT hZ w1) (mvT hZ w2) hnf (mvT hZ ws) (mvT hZ wm) hy (backOf (W := W) (Q := fun v h L => Fr h0.size L ∧ ∃ ds', oHP Z h0 lo h ds' ∧ Q' v ds') (hM _ H) hZ w4 w3 hr.1 hr.2.1) q1 q3 (g := mkF m pc ls (argsL.reverse ++ .ref a :: rest)) rfl hsz (Steps.refl _) hlen rfl (by simpa using hW) hd (fun _ _ => ⟨rfl, rfl, hr.2.2.1, hr.2.2.2⟩)
  dsimp only [Pt.U, Pt.locs, Pt.cells, Pt.slots] at X' e1 e2 e3 stp H'
  subst e1 e2 e3
  exact (k T' v ds' hQ ⟨hx, hZ, hlk, _, X', N.app N', H'⟩).steps stp
theorem W_private (B : oB p l e R s m args below meth c Z h0 lo T cells slots ds) {own C : String} {i j : Nat} {y : MethodName} {bytes : ByteArray} {maxL : Nat} {ret : Option FieldType} {rm : Room} {Q' : Option Value → oDs → Prop} {a : Addr} {fs : List (oFK × Value)} {argsL rest : List Value} {W : Nat} (hown : s.vm.findClass own = some m.cls) (w1 : (Jvm.Cond.methodLink own i y).before a0 Z = true) (w2 : (Jvm.Cond.instanceMethod y).before a0 Z = true) (ws : (Jvm.Cond.selects y.cls y y).before a0 Z = true) (wp : (Jvm.Cond.privateMethod y).before a0 Z = true) (w3 : (Jvm.Cond.initialized y.cls).before a0 Z = true) (w4 : (Jvm.Cond.code y bytes maxL ret).before a0 Z = true) (hy : y.cls ≠ "java/lang/invoke/MethodHandle" ∧ y.cls ≠ "java/lang/invoke/VarHandle")
    (hM : oMet l Z h0 lo y bytes maxL ret [] rm (.ref a :: argsL).toArray ds Q') (hlen : ∀ sig, parseMethodDescriptor y.desc = some sig → argsL.length = sig.parameters.length) (hd : decode c.code pc = .ok (.invokevirtual i, 3)) (hp : pc + 3 = pc') (hst : st = argsL.reverse ++ .ref a :: rest) (hsz : ls.size = c.maxLocals) (hW : (rest.map fun v => v.category).sum ≤ W) (hi : ds[j]? = some (a, oO C fs))
    (hr : rm.frames + 1 ≤ R.frames ∧ W + (maxL + 11) + rm.locals ≤ R.locals ∧ cells + rm.cells ≤ R.cells ∧ slots + rm.slots ≤ R.slots) {cells' slots' : Nat} (hc' : cells + rm.cells = cells') (hs' : slots + rm.slots = slots')
    (k : ∀ T v ds', Q' v ds' → oB p l e R s m args below meth c Z h0 lo T cells' slots' ds' → oWin p e below Z h0 Q E (T.setTop (mkF m pc' ls (v.toList ++ rest)))) : oWin p e below Z h0 Q E (T.setTop (mkF m pc ls st)) := by
  subst hp hst hc' hs'
  obtain ⟨hx, hZ, hlk, locs, X, N, H⟩ := B
  obtain ⟨cq, q1, q2⟩ := (H.at hi).2.1.cell
  obtain ⟨v, vm1, ⟨T', L', k', n'⟩, -, X', ⟨Lc, ⟨N', ds', H', hQ⟩, e1, e2, e3⟩, stp⟩ := X.privateBack hx (y := y) hown (mvT hZ w1) (mvT hZ w2) (mvT hZ ws) (Cond.privateMethod_at (mvP hZ wp (args := #[]))) (mvT hZ w4) hy (backOf (W := W) (Q := fun v h L => Fr h0.size L ∧ ∃ ds', oHP Z h0 lo h ds' ∧ Q' v ds') (hM _ H) hZ w4 w3 hr.1 hr.2.1) (g := mkF m pc ls (argsL.reverse ++ .ref a :: rest)) rfl hsz (Steps.refl _) (a := a) q1 q2 hlen rfl (by simpa using hW) hd (fun _ _ => ⟨rfl, rfl, hr.2.2.1, hr.2.2.2⟩)
  dsimp only [Pt.U, Pt.locs, Pt.cells, Pt.slots] at X' e1 e2 e3 stp H'
  subst e1 e2 e3
  exact (k T' v ds' hQ ⟨hx, hZ, hlk, _, X', N.app N', H'⟩).steps stp
end Wlaws
section Rel
variable {p : Program} {l : Launch} {e : Env} {R : Room} {s : State} {m : MethodId} {args : Array Value} {below : List Frame} {meth : Method} {c : Code} {Z : State} {a0 : Array Value} {h0 : Heap} {lo : Nat} {T : State} {cells slots : Nat} {ds ds' : oDs} {Q : Option Value → oDs → Prop} {E : Outcome → State → List Loc → Prop} {kc ks : Nat} {pc pc' : Nat} {ls ls' : Array Slot} {st : List Value}
theorem oMade39 {Z : State} {vm' : Vm} (hW : Z.Warmed39 vm') {d c : ClassId} {σ : Lambda.Shape} (h : Lambda.isMade { classPath := fun _ => none } Z.vm d σ c = true) : Lambda.isMade { classPath := fun _ => none } vm' d σ c = true := by
  have hA : Z.vm.Alike vm' := hW.alike
  simp only [Lambda.isMade, Option.bind_eq_bind, Option.pure_def, Option.getD_eq_iff, Option.bind_eq_some_iff, Bool.false_eq_true, and_false, or_false] at h ⊢
  obtain ⟨dk, a1, k, a2, file, a3, cf, a4, ob, a5, ifc, a6, ok, a7, lay, a8, ms, a9, t, a10, tk, a11, h⟩ := h
  obtain ⟨dk', b1, e1⟩ := hA.2.2 _ _ a1
  obtain ⟨k', b2, e2, -, hr, -⟩ := hW.2.2.2 _ _ a2
  obtain ⟨ok', b7, e7⟩ := hA.2.2 _ _ a7
  obtain ⟨tk', b11, e11⟩ := hA.2.2 _ _ a11
  obtain ⟨r1, n1, x1, rfl⟩ : ∃ r n x, dk' = { dk with resolved := r, nestHost := n, nestHostError := x } := ⟨_, _, _, e1⟩
  obtain ⟨r2, n2, x2, rfl⟩ : ∃ r n x, k' = { k with resolved := r, nestHost := n, nestHostError := x } := ⟨_, _, _, e2⟩
  obtain ⟨r7, n7, x7, rfl⟩ : ∃ r n x, ok' = { ok with resolved := r, nestHost := n, nestHostError := x } := ⟨_, _, _, e7⟩
  obtain ⟨r11, n11, x11, rfl⟩ : ∃ r n x, tk' = { tk with resolved := r, nestHost := n, nestHostError := x } := ⟨_, _, _, e11⟩
  refine ⟨_, b1, _, b2, file, a3, cf, a4, ob, by rw [hA.findClass]; exact a5, ifc, by rw [hA.findClass]; exact a6, _, b7, lay, a8, ms, a9, t, by rw [hA.findClass]; exact a10, _, b11, ?_⟩
  have i11 : ({ tk with resolved := r11, nestHost := n11, nestHostError := x11 } : Class).isInterface = tk.isInterface := rfl
  rw [i11, Lambda.methodIn_ask_alike hA, Lambda.methodIn_ask_alike hA, Lambda.resolvedOf_alike hA]
  split at h
  · rename_i tg htg
    split at h
    · rename_i fd hfd
      try rw [htg]
      try rw [hfd]
      try dsimp only
      rw [hA.selectMethod]
      rw [Option.some.injEq, Bool.and_eq_true, Bool.and_eq_true] at h ⊢
      refine ⟨⟨h.1.1, ?_⟩, h.2⟩
      have hz := h.1.2
      rw [List.all_eq_true] at hz ⊢
      intro y hy
      have q := hz y hy
      obtain ⟨x, i⟩ := y
      cases x with
      | none => rfl
      | some r =>
        simp only [Option.isNone_some, Bool.false_or, decide_eq_true_eq] at q ⊢
        rcases hr i with g | ⟨g, -⟩
        · exact g.trans q
        · rw [q] at g; cases g
    · cases h
  · cases h
theorem oMade.at {Z s : State} (hZ : Z.Warmed39 s.vm) {host : String} {σ : Lambda.Shape} {cK : ClassId} (h : LamKit.Made Z host σ cK) : LamKit.Made s host σ cK := by
  obtain ⟨d, dk, hd, hdn, hm, hc⟩ := h
  obtain ⟨dk', hd', e⟩ := hZ.alike.2.2 _ _ hd
  refine ⟨d, dk', hd', by rw [e]; exact hdn, oMade39 hZ hm, ?_⟩
  simp only [State.lambdaCallable, hZ.alike.findClass, hZ.alike.assignable, hZ.alike.superclasses, hZ.alike.declaredIn] at hc ⊢
  exact hc
/-- a is the one object of the lambda's site at pc of x -/
def oLam (Z : State) (h0 : Heap) (x : MethodName) (pc : Nat) (σ : Lambda.Shape) (a : Addr) : Prop :=
  ∃ (cK : ClassId) (mD : MethodId) (kD : Class) (i0 p0 : Nat), LamKit.Made Z x.cls σ cK ∧ LamKit.FnAt h0 a cK ∧ Z.methodNamed? x = some mD ∧ Z.vm.classes[mD.cls]? = some kD ∧ (kD.callSites.find? fun y => y.1 == mD.idx && y.2.1 == pc) = some (i0, p0, .constant a)
theorem oLam.of {Z : State} {a0 : Array Value} {x : MethodName} {pc index : Nat} {σ : Lambda.Shape} (w : (Jvm.Cond.lambdaSite x pc index σ).before a0 Z = true) (hcap : σ.captured = []) : ∃ a, oLam Z Z.heap x pc σ a := by
  obtain ⟨cK, one, hat⟩ := Cond.lambdaSite_spec w
  obtain ⟨mD, kD, cfD, i0, p0, lk, hmD, hkD, -, -, -, hfind, hmade, hcan, hl⟩ := State.lambdaAt?_spec hat
  obtain ⟨kD', hkD', hnameD⟩ := className_of_methodNamed hmD
  cases hkD.symm.trans hkD'
  rcases hl with ⟨a, cell, rfl, -, -, hcell, hcls, hvm, -⟩ | ⟨-, -, hne⟩
  · exact ⟨a, cK, mD, kD, i0, p0, ⟨_, kD, hkD, hnameD, hmade, hcan⟩, ⟨cell, hcell, hcls, hvm⟩, hmD, hkD, hfind⟩
  · exact absurd hcap hne
theorem oMet.of_bodyN {l : Launch} {Z : State} {h0 : Heap} {lo : Nat} {y : MethodName} {bytes : ByteArray} {maxL : Nat} {ret : Option FieldType} {ws : List Jvm.Cond} {rm : Room} {as : Array Value} {ds : oDs} {Q : Option Value → oDs → Prop} (hpl : plainFor y = true)
    (body : ∀ p e s m below meth c T, oB p l e rm s m as below meth c Z h0 lo T 0 0 ds → c.code = bytes → c.maxLocals = maxL → s.vm.findClass y.cls = some m.cls → meth.name = y.name → meth.sig.returnType = ret → s.methodNamed? y = some m → oWin p e below Z h0 Q (oFE s lo rm.cells rm.slots) (T.setTop (entryFrame m as maxL))) : oMet l Z h0 lo y bytes maxL ret ws rm as ds Q := by
  intro h hH
  refine MetFree.of_bodySF hpl hisR ?_
  intro p e s m args below meth c s₁ Bd hml hP hK
  obtain ⟨rfl, hZ, hh⟩ := hP
  have e0 : s₁.heap = h := by rw [← hh, Bd.state]; rfl
  obtain ⟨U, o, h1, h2, h3, v, L, h4, ⟨h5, lo', ds', h6, h7⟩, h8, h9⟩ := body p e s m below meth c s₁ ⟨Bd.exec, hZ, Bd.notSynchronized, [], Stand.of_body Bd, Fr.nil _, e0 ▸ hH⟩ Bd.bytes hml (findClass_of_methodNamed Bd.named) (name_of_methodNamed Bd.named Bd.method).1 Bd.returns Bd.named
  exact ⟨U, o, h1, h2, h3, v, L, h4, ⟨h5, ds', ⟨⟨h6.1.1, h8⟩, h6.2⟩, h7⟩, h9⟩
theorem W_indy (B : oB p l e R s m args below meth c Z h0 lo T cells slots ds) {x : MethodName} {index : Nat} {σ : Lambda.Shape} {a : Addr} (hL : oLam Z h0 x pc σ a) (hnamed : s.methodNamed? x = some m) (hd : decode c.code pc = .ok (.invokedynamic index, 5)) (hp : pc + 5 = pc') (hsz : ls.size = c.maxLocals) (hW : (st.map fun v => v.category).sum + 3072 ≤ R.locals)
    (w : oWin p e below Z h0 Q E (T.setTop (mkF m pc' ls (.ref a :: st)))) : oWin p e below Z h0 Q E (T.setTop (mkF m pc ls st)) := by
  subst hp
  obtain ⟨hx, hZ, hlk, locs, X, N, H⟩ := B
  obtain ⟨cK, mD, kD, i0, p0, -, -, hmD, hkD, hf⟩ := hL
  have q : (Z.setVm s.vm).methodNamed? x = some mD := by rw [State.methodNamed?_setVm hZ.alike]; exact hmD
  have hm : mD = m := Option.some.inj (Eq.trans (Eq.symm q) (show (Z.setVm s.vm).methodNamed? x = some m from hnamed))
  subst hm
  obtain ⟨k', hk', he⟩ := hZ.alike.2.2 _ _ hkD
  have hw : e.platform.lambdaLinkWords = 3072 := by rw [X.admits.platform]
  refine w.step fun t k => X.lambdaConstant hx (g := mkF mD pc ls st) rfl hsz hd hk' (i0 := i0) (p0 := p0) (a := a) (by rw [he]; exact hf) (by rw [hw]; simpa using hW) k
theorem W_lam (B : oB p l e R s m args below meth c Z h0 lo T cells slots ds) {own : String} {x xi y : MethodName} {pc0 index count : Nat} {σ : Lambda.Shape} {bytes : ByteArray} {maxL : Nat} {a : Addr} {v : Int32} (hL : oLam Z h0 x pc0 σ a)
    (hM : Met l y [Jvm.Cond.code y bytes maxL (some .int)] { frames := 0, cells := 0, slots := 0, locals := 0 } (fun args _ => args = #[.int v]) (fun _ s1 o t => o = .returned (some (.int v)) ∧ t.heap = s1.heap) 0 0 (fun _ => False))
    (hown : s.vm.findClass own = some m.cls) (w1 : (Jvm.Cond.methodLink own index xi).before a0 Z = true) (w2 : (Jvm.Cond.declares xi).before a0 Z = true) (w3 : (Jvm.Cond.interfaceMethod xi.cls xi.cls xi.name xi.desc).before a0 Z = true)
    (w4 : (Jvm.Cond.code y bytes maxL (some .int)).before a0 Z = true) (w5 : (Jvm.Cond.static y).before a0 Z = true) (w6 : (Jvm.Cond.initialized y.cls).before a0 Z = true)
    (hxi : xi.cls = σ.iface ∧ xi.name = σ.name ∧ xi.desc = σ.sam.toString) (hy : y.cls = σ.implClass ∧ y.name = σ.implName ∧ y.desc = σ.implDesc.toString)
    (hpoly : (xi.cls ≠ "java/lang/invoke/MethodHandle" ∧ xi.cls ≠ "java/lang/invoke/VarHandle") ∧ y.cls ≠ "java/lang/invoke/MethodHandle" ∧ y.cls ≠ "java/lang/invoke/VarHandle")
    {fcode : ByteArray} {idx ci : Nat} (hok : LamKit.fwdOK σ x.cls fcode 2 (some .int) idx ci = true) (f0 : decode fcode 0 = .ok (.iload_n 1, 1)) (f1 : decode fcode 1 = .ok (.invokestatic idx, 3)) (f4 : decode fcode 4 = .ok (.ireturn, 1))
    (hlen : ∀ sig, parseMethodDescriptor xi.desc = some sig → [Value.int v].length = sig.parameters.length) (hlenT : ∀ sig, parseMethodDescriptor y.desc = some sig → [Value.int v].length = sig.parameters.length)
    (hd : decode c.code pc = .ok (.invokeinterface index count, 5)) (hp : pc + 5 = pc') (hsz : ls.size = c.maxLocals) (hr : 2 ≤ R.frames ∧ (st.map fun v => v.category).sum + (2 + 11) + (maxL + 11) ≤ R.locals ∧ cells ≤ R.cells ∧ slots ≤ R.slots)
    (k : ∀ T, oB p l e R s m args below meth c Z h0 lo T cells slots ds → oWin p e below Z h0 Q E (T.setTop (mkF m pc' ls (.int v :: st)))) : oWin p e below Z h0 Q E (T.setTop (mkF m pc ls (.int v :: .ref a :: st))) := by
  subst hp
  obtain ⟨hx, hZ, hlk, locs, X, N, H⟩ := B
  obtain ⟨cK, mD, kD, i0, p0, hmd, ⟨cell, g1, g2, g3⟩, -⟩ := hL
  have hcodeT : (Jvm.Cond.code y bytes maxL (some .int)).before args s = true := mvT hZ w4
  obtain ⟨w, s1, t, T', L, X', hL', e1, e3, hq, stp⟩ := LamKit.callLamS X hx (own := own) (host := x.cls) (index := index) (count := count) (xi := xi) (y := y) (σ := σ) hM (fun _ _ _ _ h => h) rfl rfl
    (fun w hw' a' U hU => by rw [List.mem_singleton.mp hw']; exact word_at hU (Or.inl (by first | rfl | simp [Cond.onTables, Cond.keeps, Cond.steady])) hcodeT) (List.mem_singleton.mpr rfl)
    hown (mvT hZ w1) (mvT hZ w2) (mvT hZ w3 (by simp [Cond.onTables, Cond.keepsFace, Cond.keeps, Cond.steady, Cond.faceAtom, hpoly.1.1, hpoly.1.2])) hcodeT (mvT hZ w5) (mvT hZ w6) hxi hy hpoly (oMade.at hZ hmd) ⟨cell, H.1.1.2 _ _ g1, g2, g3⟩ hok f1 f4
    (g := mkF m pc ls (.int v :: .ref a :: st)) rfl hsz (argsL := [.int v]) (argsT := [.int v]) (rest := st) (L0 := #[.val (.ref a), iv v]) hlen hlenT rfl hd (fun _ => rfl) rfl
    (fun U ck bl target hU hck _ _ k => XS.iloadN hU hx rfl (hb hck f0) rfl k)
    (fun s1 w t h => by cases h.1; exact Or.inl ⟨.int, _, rfl, Or.inl rfl, rfl, rfl, rfl⟩) hr.1 (by have := hr.2.1; simp at this ⊢; omega) hr.2.2.1 hr.2.2.2 (fun _ _ _ => rfl)
  obtain ⟨hq1, hq2⟩ := hq
  cases hq1
  have X'' := Stand.forget (extra := L) X' (fun q hq => (hL' q hq).elim)
  have eh : T'.heap = T.heap := e1.trans (hq2.trans e3)
  exact (k T' ⟨hx, hZ, hlk, locs, X'', N, by rw [eh]; exact H⟩).step stp
theorem W_iface (B : oB p l e R s m args below meth c Z h0 lo T cells slots ds) {own C : String} {i j count : Nat} {xi y : MethodName} {bytes : ByteArray} {maxL : Nat} {ret : Option FieldType} {rm : Room} {Q' : Option Value → oDs → Prop} {a : Addr} {fs : List (oFK × Value)} {argsL rest : List Value} {W : Nat} (hown : s.vm.findClass own = some m.cls)
    (w1 : (Jvm.Cond.methodLink own i xi).before a0 Z = true) (w2 : (Jvm.Cond.declares xi).before a0 Z = true) (wf : (Jvm.Cond.interfaceMethod xi.cls xi.cls xi.name xi.desc).before a0 Z = true) (ws : (Jvm.Cond.selects C xi y).before a0 Z = true) (wm : (Jvm.Cond.instanceMethod y).before a0 Z = true) (wp : (Jvm.Cond.publicMethod y).before a0 Z = true) (wu : (Jvm.Cond.unhidden C xi.name xi.desc).before a0 Z = true) (wc : (Jvm.Cond.castable C xi.cls).before a0 Z = true)
    (w3 : (Jvm.Cond.initialized y.cls).before a0 Z = true) (w4 : (Jvm.Cond.code y bytes maxL ret).before a0 Z = true) (hy : xi.cls ≠ "java/lang/invoke/MethodHandle" ∧ xi.cls ≠ "java/lang/invoke/VarHandle")
    (hM : oMet l Z h0 lo y bytes maxL ret [] rm (.ref a :: argsL).toArray ds Q') (hlen : ∀ sig, parseMethodDescriptor xi.desc = some sig → argsL.length = sig.parameters.length) (hd : decode c.code pc = .ok (.invokeinterface i count, 5)) (hp : pc + 5 = pc') (hst : st = argsL.reverse ++ .ref a :: rest) (hsz : ls.size = c.maxLocals) (hW : (rest.map fun v => v.category).sum ≤ W) (hi : ds[j]? = some (a, oO C fs))
    (hr : rm.frames + 1 ≤ R.frames ∧ W + (maxL + 11) + rm.locals ≤ R.locals ∧ cells + rm.cells ≤ R.cells ∧ slots + rm.slots ≤ R.slots) {cells' slots' : Nat} (hc' : cells + rm.cells = cells') (hs' : slots + rm.slots = slots')
    (k : ∀ T v ds', Q' v ds' → oB p l e R s m args below meth c Z h0 lo T cells' slots' ds' → oWin p e below Z h0 Q E (T.setTop (mkF m pc' ls (v.toList ++ rest)))) : oWin p e below Z h0 Q E (T.setTop (mkF m pc ls st)) := by
  subst hp hst hc' hs'
  obtain ⟨hx, hZ, hlk, locs, X, N, H⟩ := B
  obtain ⟨cq, kq, q1, q2, q3⟩ := isOf (T := T) hZ rfl (H.at hi).2.1
  obtain ⟨v, vm1, ⟨T', L', k', n'⟩, -, X', ⟨Lc, ⟨N', ds', H', hQ⟩, e1, e2, e3⟩, stp⟩ := X.interfaceBack hx (xi := xi) (y := y) hown (mvT hZ w1) (mvT hZ w2) (mvT hZ wf (by simp [Cond.onTables, Cond.keepsFace, Cond.keeps, Cond.steady, Cond.faceAtom, hy.1, hy.2])) (mvT hZ ws) (mvT hZ wm) (mvT hZ wp) (mvT hZ wu) (mvT hZ wc) hy (backOf (W := W) (Q := fun v h L => Fr h0.size L ∧ ∃ ds', oHP Z h0 lo h ds' ∧ Q' v ds') (hM _ H) hZ w4 w3 hr.1 hr.2.1) q1 q2 q3 (g := mkF m pc ls (argsL.reverse ++ .ref a :: rest)) rfl hsz (Steps.refl _) hlen rfl (by simpa using hW) hd (fun _ _ => ⟨rfl, rfl, hr.2.2.1, hr.2.2.2⟩)
  dsimp only [Pt.U, Pt.locs, Pt.cells, Pt.slots] at X' e1 e2 e3 stp H'
  subst e1 e2 e3
  exact (k T' v ds' hQ ⟨hx, hZ, hlk, _, X', N.app N', H'⟩).steps stp
theorem W_initN (B : oB p l e R s m args below meth c Z h0 lo T cells slots ds) {own host : String} {i : Nat} {y : MethodName} {bytes : ByteArray} {maxL : Nat} {rm : Room} {Q' : Option Value → oDs → Prop} {a : Addr} {argsL rest : List Value} {W : Nat} (hown : s.vm.findClass own = some m.cls) (hy1 : y.name = "<init>") (w1 : (Jvm.Cond.methodLinkNest own i y host).before a0 Z = true) (w2 : (Jvm.Cond.instanceMethod y).before a0 Z = true) (w3 : (Jvm.Cond.initialized y.cls).before a0 Z = true) (w4 : (Jvm.Cond.code y bytes maxL none).before a0 Z = true) (hy : y.cls ≠ "java/lang/invoke/MethodHandle" ∧ y.cls ≠ "java/lang/invoke/VarHandle")
    (hM : oMet l Z h0 lo y bytes maxL none [] rm (.ref a :: argsL).toArray ds Q') (hlen : ∀ sig, parseMethodDescriptor y.desc = some sig → argsL.length = sig.parameters.length) (hd : decode c.code pc = .ok (.invokespecial i, 3)) (hp : pc + 3 = pc') (hst : st = argsL.reverse ++ .ref a :: rest) (hsz : ls.size = c.maxLocals) (hW : (rest.map fun v => v.category).sum ≤ W)
    (hr : rm.frames + 1 ≤ R.frames ∧ W + (maxL + 11) + rm.locals ≤ R.locals ∧ cells + rm.cells ≤ R.cells ∧ slots + rm.slots ≤ R.slots) {cells' slots' : Nat} (hc' : cells + rm.cells = cells') (hs' : slots + rm.slots = slots')
    (k : ∀ T v ds', Q' v ds' → oB p l e R s m args below meth c Z h0 lo T cells' slots' ds' → oWin p e below Z h0 Q E (T.setTop (mkF m pc' ls (v.toList ++ rest)))) : oWin p e below Z h0 Q E (T.setTop (mkF m pc ls st)) := by
  subst hp hst hc' hs'
  obtain ⟨hx, hZ, hlk, locs, X, N, H⟩ := B
  obtain ⟨v, vm1, ⟨T', L', k', n'⟩, -, X', ⟨Lc, ⟨N', ds', H', hQ⟩, e1, e2, e3⟩, stp⟩ := X.specialBackNest hx (y := y) hy1 hown (Cond.methodLinkNest_wide hZ w1 :) (mvT hZ w2) (mvT hZ w4) hy (backOf (W := W) (Q := fun v h L => Fr h0.size L ∧ ∃ ds', oHP Z h0 lo h ds' ∧ Q' v ds') (hM _ H) hZ w4 w3 hr.1 hr.2.1) (g := mkF m pc ls (argsL.reverse ++ .ref a :: rest)) rfl hsz (Steps.refl _) (a := a) hlen rfl (by simpa using hW) hd (fun _ _ => ⟨rfl, rfl, hr.2.2.1, hr.2.2.2⟩)
  dsimp only [Pt.U, Pt.locs, Pt.cells, Pt.slots] at X' e1 e2 e3 stp H'
  subst e1 e2 e3
  exact (k T' v ds' hQ ⟨hx, hZ, hlk, _, X', N.app N', H'⟩).steps stp
theorem W_initR (B : oB p l e R s m args below meth c Z h0 lo T cells slots ds) {own : String} {i : Nat} {y : MethodName} {bytes : ByteArray} {maxL : Nat} {rm : Room} {Q' : Option Value → oDs → Prop} {a : Addr} {argsL rest : List Value} {W : Nat} (hown : s.vm.findClass own = some m.cls) (hy1 : y.name = "<init>") (w1 : (Jvm.Cond.methodRef own i y).before a0 Z = true) (w2 : (Jvm.Cond.instanceMethod y).before a0 Z = true) (w3 : (Jvm.Cond.initialized y.cls).before a0 Z = true) (w4 : (Jvm.Cond.code y bytes maxL none).before a0 Z = true) (hy : y.cls ≠ "java/lang/invoke/MethodHandle" ∧ y.cls ≠ "java/lang/invoke/VarHandle")
    (hM : oMet l Z h0 lo y bytes maxL none [] rm (.ref a :: argsL).toArray ds Q') (hlen : ∀ sig, parseMethodDescriptor y.desc = some sig → argsL.length = sig.parameters.length) (hd : decode c.code pc = .ok (.invokespecial i, 3)) (hp : pc + 3 = pc') (hst : st = argsL.reverse ++ .ref a :: rest) (hsz : ls.size = c.maxLocals) (hW : (rest.map fun v => v.category).sum ≤ W)
    (hr : rm.frames + 1 ≤ R.frames ∧ W + (maxL + 11) + rm.locals ≤ R.locals ∧ cells + rm.cells ≤ R.cells ∧ slots + rm.slots ≤ R.slots) {cells' slots' : Nat} (hc' : cells + rm.cells = cells') (hs' : slots + rm.slots = slots')
    (k : ∀ T v ds', Q' v ds' → oB p l e R s m args below meth c Z h0 lo T cells' slots' ds' → oWin p e below Z h0 Q E (T.setTop (mkF m pc' ls (v.toList ++ rest)))) : oWin p e below Z h0 Q E (T.setTop (mkF m pc ls st)) := by
  subst hp hst hc' hs'
  obtain ⟨hx, hZ, hlk, locs, X, N, H⟩ := B
  have hZT : Z.Warmed39 T.vm := wtrans hZ X.warmed
  obtain ⟨mk, methM, hn, hmM, hsM, habM⟩ := Cond.instanceMethod_spec w2
  obtain ⟨methM', cM, hmM', -, -, -, -, -, -, hsig⟩ := Cond.code_spec hn w4
  cases hmM.symm.trans hmM'
  have wr := Cond.methodRef_warmed39 hZT hn hy w1
  have hownT : (Z.setVm T.vm).vm.findClass own = some m.cls := by rw [show (Z.setVm T.vm).vm = T.vm from rfl, X.warmed.alike.findClass]; exact hown
  obtain ⟨m2, c2, hf2, hready, hfc, hnr⟩ := Cond.methodRef_named e hownT wr
  have hnT : (Z.setVm T.vm).methodNamed? y = some mk := by rw [State.methodNamed?_setVm hZT.alike]; exact hn
  have hmT : (Z.setVm T.vm).vm.method? mk = some methM := by rw [show (Z.setVm T.vm).vm = T.vm from rfl, hZT.alike.method?]; exact hmM
  cases hf2.symm.trans (State.methodFound?_of_named hnT hy)
  have ec : c2 = mk.cls := Option.some.inj (hfc.symm.trans (findClass_of_methodNamed hnT))
  subst ec
  obtain ⟨kT, hkT, -⟩ := className_of_methodNamed hnT
  obtain ⟨n1, n2⟩ := name_of_methodNamed hnT hmT
  have hlook := lookupSpecial_of_named hnT hmT hsM
  rw [hy1, ← n2] at hlook
  have hnS : s.methodNamed? y = some mk := by
    have q : (Z.setVm s.vm).methodNamed? y = some mk := by rw [State.methodNamed?_setVm hZ.alike]; exact hn
    exact q
  obtain ⟨v, ⟨T', L', k', n'⟩, X', ⟨Lc, ⟨N', ds', H', hQ⟩, e1, e2, e3⟩, stp⟩ := (backOf (W := W) (Q := fun v h L => Fr h0.size L ∧ ∃ ds', oHP Z h0 lo h ds' ∧ Q' v ds') (hM _ H) hZ w4 w3 hr.1 hr.2.1) m meth c ⟨T, locs, cells, slots⟩ { mkF m pc ls (argsL.reverse ++ .ref a :: rest) with stack := rest } (.invokespecial i) mk (.ref a :: argsL).toArray X rfl hsz hd (by simpa using hW) hnT ⟨rfl, rfl, hr.2.2.1, hr.2.2.2⟩
  dsimp only [Pt.U, Pt.locs, Pt.cells, Pt.slots] at X' e1 e2 e3 stp H'
  subst e1 e2 e3
  refine (k T' v ds' hQ ⟨hx, hZ, hlk, _, X', N.app N', H'⟩).step fun t ht => ?_
  jvm_step X.here [hx, hd, invokespecial.wp_init (e := e) (s := T) (f := mkF m pc ls (argsL.reverse ++ .ref a :: rest)) (m := mk) (a := a) (args := argsL) (rest := rest) X.here.top hnr hready hkT hmT (n1.trans hy1) hsM habM hlook (hlen _ hsig) rfl]
  intro acts
  rw [doInvoke_state]
  exact stp.trans ht
theorem W_getfieldR (B : oB p l e R s m args below meth c Z h0 lo T cells slots ds) {own O n d : String} {i j q : Nat} {a : Addr} {C : String} {fs : List (oFK × Value)} {v : Value} (hown : s.vm.findClass own = some m.cls) (w : (Jvm.Cond.fieldRef own i O n d).before a0 Z = true) (hd : decode c.code pc = .ok (.getfield i, 3)) (hp : pc + 3 = pc')
    (hi : ds[j]? = some (a, oO C fs)) (hf : fs[q]? = some ((O, n, d), v)) (k : oWin p e below Z h0 Q E (T.setTop (mkF m pc' ls (v :: st)))) : oWin p e below Z h0 Q E (T.setTop (mkF m pc ls (.ref a :: st))) := by
  subst hp
  obtain ⟨hx, hZ, hlk, locs, X, N, H⟩ := B
  obtain ⟨cell, cf, k0, i0, f, h1, h2, h3, h4, -, -, h7⟩ := (H.at hi).2.2.1 _ (List.mem_of_getElem? hf)
  have hZT : Z.Warmed39 T.vm := wtrans hZ X.warmed
  have hownT : (Z.setVm T.vm).vm.findClass own = some m.cls := by rw [show (Z.setVm T.vm).vm = T.vm from rfl, X.warmed.alike.findClass]; exact hown
  obtain ⟨c2, k2, i2, f2, hfi, hready⟩ := Cond.fieldRef_spec hownT (Cond.fieldRef_warmed39 hZT w)
  obtain ⟨k', hi', -⟩ := State.fieldFound?_setVm (s := Z) hZT.alike h2
  cases hfi.symm.trans hi'
  refine k.step fun t ht => ?_
  jvm_step X.here [hx, hd, getfield.wp_ready (e := e) (s := T) (f := mkF m pc ls (.ref a :: st)) X.here.top hready h3 rfl h1 h4 h7]
  exact ht
theorem W_privateS (B : oB p l e R s m args below meth c Z h0 lo T cells slots ds) {own C : String} {i j nn : Nat} {y : MethodName} {bytes : ByteArray} {maxL : Nat} {ret : Option FieldType} {rm : Room} {Q' : Option Value → oDs → Prop} {a : Addr} {fs : List (oFK × Value)} {argsL rest : List Value} {W : Nat} (hown : s.vm.findClass own = some m.cls) (w1 : (Jvm.Cond.methodLink own i y).before a0 Z = true) (w2 : (Jvm.Cond.instanceMethod y).before a0 Z = true) (wi : (Jvm.Cond.instantiable y.cls nn).before a0 Z = true) (wp : (Jvm.Cond.privateMethod y).before a0 Z = true) (w3 : (Jvm.Cond.initialized y.cls).before a0 Z = true) (w4 : (Jvm.Cond.code y bytes maxL ret).before a0 Z = true) (hy : y.cls ≠ "java/lang/invoke/MethodHandle" ∧ y.cls ≠ "java/lang/invoke/VarHandle")
    (hM : oMet l Z h0 lo y bytes maxL ret [] rm (.ref a :: argsL).toArray ds Q') (hlen : ∀ sig, parseMethodDescriptor y.desc = some sig → argsL.length = sig.parameters.length) (hd : decode c.code pc = .ok (.invokevirtual i, 3)) (hp : pc + 3 = pc') (hst : st = argsL.reverse ++ .ref a :: rest) (hsz : ls.size = c.maxLocals) (hW : (rest.map fun v => v.category).sum ≤ W) (hi : ds[j]? = some (a, oO C fs))
    (hr : rm.frames + 1 ≤ R.frames ∧ W + (maxL + 11) + rm.locals ≤ R.locals ∧ cells + rm.cells ≤ R.cells ∧ slots + rm.slots ≤ R.slots) {cells' slots' : Nat} (hc' : cells + rm.cells = cells') (hs' : slots + rm.slots = slots')
    (k : ∀ T v ds', Q' v ds' → oB p l e R s m args below meth c Z h0 lo T cells' slots' ds' → oWin p e below Z h0 Q E (T.setTop (mkF m pc' ls (v.toList ++ rest)))) : oWin p e below Z h0 Q E (T.setTop (mkF m pc ls st)) := by
  subst hp hst hc' hs'
  obtain ⟨hx, hZ, hlk, locs, X, N, H⟩ := B
  obtain ⟨cq, q1, q2⟩ := (H.at hi).2.1.cell
  obtain ⟨ci, ki, z1, z2, -, z3, -⟩ := Cond.instantiable_spec (mvT hZ wi : (Jvm.Cond.instantiable y.cls nn).before args s = true)
  have z4 : ki.isInterface = false := by revert z3; cases ki.isInterface <;> simp
  have hpv := Cond.privateMethod_at (mvP hZ wp (args := #[]))
  obtain ⟨v, vm1, ⟨T', L', k', n'⟩, -, X', ⟨Lc, ⟨N', ds', H', hQ⟩, e1, e2, e3⟩, stp⟩ := X.privateBack hx (y := y) hown (mvT hZ w1) (mvT hZ w2) (selects_self_of_private z1 z2 z4 hpv (mvT hZ w2) hy) hpv (mvT hZ w4) hy (backOf (W := W) (Q := fun v h L => Fr h0.size L ∧ ∃ ds', oHP Z h0 lo h ds' ∧ Q' v ds') (hM _ H) hZ w4 w3 hr.1 hr.2.1) (g := mkF m pc ls (argsL.reverse ++ .ref a :: rest)) rfl hsz (Steps.refl _) (a := a) q1 q2 hlen rfl (by simpa using hW) hd (fun _ _ => ⟨rfl, rfl, hr.2.2.1, hr.2.2.2⟩)
  dsimp only [Pt.U, Pt.locs, Pt.cells, Pt.slots] at X' e1 e2 e3 stp H'
  subst e1 e2 e3
  exact (k T' v ds' hQ ⟨hx, hZ, hlk, _, X', N.app N', H'⟩).steps stp
theorem W_ldcWInt (B : oB p l e R s m args below meth c Z h0 lo T cells slots ds) {own : String} {i : Nat} {v : Int32} (hown : s.vm.findClass own = some m.cls) (w : (Jvm.Cond.constant own i v).before a0 Z = true) (hd : decode c.code pc = .ok (.ldc_w i, 3)) (hp : pc + 3 = pc') (k : oWin p e below Z h0 Q E (T.setTop (mkF m pc' ls (.int v :: st)))) : oWin p e below Z h0 Q E (T.setTop (mkF m pc ls st)) := by
  subst hp
  obtain ⟨hx, hZ, hlk, locs, X, N, H⟩ := B
  exact k.step (X.ldcWInt hx hown (mvT hZ w) (g := mkF m pc ls st) rfl hd)
theorem W_castObj (B : oB p l e R s m args below meth c Z h0 lo T cells slots ds) {own C K : String} {i j : Nat} {a : Addr} {fs : List (oFK × Value)} (hown : s.vm.findClass own = some m.cls) (w : (Jvm.Cond.classLink own i K).before a0 Z = true) (hi : ds[j]? = some (a, oO C fs)) (hins : C = K ∨ (Jvm.Cond.castable C K).before a0 Z = true) (hd : decode c.code pc = .ok (.checkcast i, 3)) (hp : pc + 3 = pc')
    (k : ∀ T, oB p l e R s m args below meth c Z h0 lo T cells slots ds → oWin p e below Z h0 Q E (T.setTop (mkF m pc' ls (.ref a :: st)))) : oWin p e below Z h0 Q E (T.setTop (mkF m pc ls (.ref a :: st))) := by
  subst hp
  obtain ⟨hx, hZ, hlk, locs, X, N, H⟩ := B
  have E2 := (H.at hi).2.1
  have J : Ins Z T.heap a K true := by
    rcases hins with q | q
    · subst q; exact Ins.self E2
    · exact Ins.of_exa E2 q
  obtain ⟨T', X', e', stp⟩ := castY X hx hZ hown w rfl J (g := mkF m pc ls (.ref a :: st)) rfl rfl hd
  exact (k T' ⟨hx, hZ, hlk, locs, X', N, e' ▸ H⟩).step stp
theorem W_instY (B : oB p l e R s m args below meth c Z h0 lo T cells slots ds) {own C K : String} {i j : Nat} {a : Addr} {fs : List (oFK × Value)} (hown : s.vm.findClass own = some m.cls) (w : (Jvm.Cond.classLink own i K).before a0 Z = true) (hi : ds[j]? = some (a, oO C fs)) (hins : C = K ∨ (Jvm.Cond.castable C K).before a0 Z = true) (hd : decode c.code pc = .ok (.instanceof i, 3)) (hp : pc + 3 = pc')
    (k : ∀ T, oB p l e R s m args below meth c Z h0 lo T cells slots ds → oWin p e below Z h0 Q E (T.setTop (mkF m pc' ls (.int 1 :: st)))) : oWin p e below Z h0 Q E (T.setTop (mkF m pc ls (.ref a :: st))) := by
  subst hp
  obtain ⟨hx, hZ, hlk, locs, X, N, H⟩ := B
  have E2 := (H.at hi).2.1
  have J : Ins Z T.heap a K true := by
    rcases hins with q | q
    · subst q; exact Ins.self E2
    · exact Ins.of_exa E2 q
  obtain ⟨T', X', e', stp⟩ := instY X hx hZ hown w rfl J (g := mkF m pc ls (.ref a :: st)) rfl rfl hd
  exact (k T' ⟨hx, hZ, hlk, locs, X', N, e' ▸ H⟩).step stp
/-- an array of the start -/
def oOld (Z : State) (h0 : Heap) (a : Addr) (ty : FieldType) (n : Nat) : Prop := ∃ c : Cell, Arr Z h0 a c ty ∧ c.slots.size = n
theorem W_alenOld (B : oB p l e R s m args below meth c Z h0 lo T cells slots ds) {a : Addr} {ty : FieldType} {n : Nat} {z : Int32} (hO : oOld Z h0 a ty n) (hd : decode c.code pc = .ok (.arraylength, 1)) (hp : pc + 1 = pc') (hz : n.toInt32 = z) (w : oWin p e below Z h0 Q E (T.setTop (mkF m pc' ls (.int z :: st)))) : oWin p e below Z h0 Q E (T.setTop (mkF m pc ls (.ref a :: st))) := by
  subst hp hz
  obtain ⟨hx, hZ, hlk, locs, X, N, H⟩ := B
  obtain ⟨c', A0, e⟩ := hO
  have A := A0.ext H.1.1
  refine w.step fun t k => X.arraylength hx A.1 (State.isArrayOf_alike hZ.alike A.2.1) (g := mkF m pc ls (.ref a :: st)) rfl rfl hd t ?_
  rw [e]; exact k
theorem oIs.keep {h h' : Heap} {a b : Addr} {d : oD} (K : Keep h h' [b]) (ne : a ≠ b) (I : oIs Z h a d) : oIs Z h' a d := by
  have nb : a ∉ [b] := by simpa using ne
  cases d with
  | inl x => obtain ⟨c, A, r1, r2, r3, r4⟩ := I; exact ⟨c, ⟨K.2.1 a c A.1 nb, A.2⟩, r1, r2, r3.keep K, r4⟩
  | inr x => exact ⟨I.1.keep K, fun f hf => (I.2.1 f hf).keep K nb, I.2.2⟩
theorem oHP.keep {h h' : Heap} (H : oHP Z h0 lo h ds) {i : Nat} {b : Addr} {d d' : oD} (hi : ds[i]? = some (b, d)) (K : Keep h h' [b]) (I : oIs Z h' b d') : oHP Z h0 lo h' (ds.set i (b, d')) := by
  have hl : i < ds.length := (List.getElem?_eq_some_iff.mp hi).1
  have hb := (H.at hi).1
  refine ⟨⟨⟨Nat.le_trans H.1.1.1 K.1, fun x cx hx => K.2.1 x cx (H.1.1.2 x cx hx) ?_⟩, Nat.le_trans H.1.2 K.1⟩, ?_, ?_⟩
  · have := (Array.getElem?_eq_some_iff.mp hx).1
    intro q
    cases List.mem_singleton.mp q
    exact absurd this (Nat.not_lt.mpr hb)
  · have e : (ds.set i (b, d')).map (·.1) = ds.map (·.1) := by
      rw [List.map_set]
      have h1 : (ds.map (·.1))[i]? = some b := by rw [List.getElem?_map, hi]; rfl
      obtain ⟨l1, e1⟩ := List.getElem?_eq_some_iff.mp h1
      show (ds.map (·.1)).set i b = _
      rw [← e1, List.set_getElem_self]
    rw [e]; exact H.2.1
  · intro x hx
    obtain ⟨j, hj⟩ := List.mem_iff_getElem?.mp hx
    rw [List.getElem?_set] at hj
    by_cases q : i = j
    · rw [if_pos q, if_pos hl] at hj
      cases hj; exact ⟨hb, I⟩
    · rw [if_neg q] at hj
      have ne : x.1 ≠ b := H.ne hj hi (Ne.symm q)
      obtain ⟨g1, g2⟩ := H.2.2 x (List.mem_of_getElem? hj)
      exact ⟨g1, g2.keep K ne⟩
theorem oArv {h : Heap} {a : Addr} {vs : List Value} {z : Int32} (I : oIs Z h a (oA .int vs)) (hz : ¬ z < 0) (hl : vs.length = z.toNatClampNeg) : ∃ k, Arv Z h a k .int z vs (.int 0) := by
  obtain ⟨c, A, e, -, -, F⟩ := I
  refine ⟨c.cls, c, A, rfl, by rw [e]; simpa using hl, hz, fun i hi => ?_, fun i hi => ?_⟩
  · have hi' : i < vs.length := by rw [e] at hi; simpa using hi
    rw [e]; simp [List.getD, hi']
  · have hi' : i < vs.length := by rw [e] at hi; simpa using hi
    have : vs.getD i (.int 0) = vs[i] := by simp [List.getD, hi']
    rw [this]; exact F _ (List.getElem_mem hi')
theorem W_arraycopy (B : oB p l e R s m args below meth c Z h0 lo T cells slots ds) {own : String} {i j1 j2 : Nat} {a b : Addr} {vs vd us : List Value} {sp dp nn z z' : Int32} {W : Nat} (hown : s.vm.findClass own = some m.cls)
    (w1 : (Jvm.Cond.methodLink own i Jvm.Stand.acN).before a0 Z = true) (w2 : (Jvm.Cond.native Jvm.Stand.acN).before a0 Z = true) (w3 : (Jvm.Cond.static Jvm.Stand.acN).before a0 Z = true) (w4 : (Jvm.Cond.initialized "java/lang/System").before a0 Z = true)
    (hd : decode c.code pc = .ok (.invokestatic i, 3)) (hp : pc + 3 = pc') (hsz : ls.size = c.maxLocals) (h1 : ds[j1]? = some (a, oA .int vs)) (h2 : ds[j2]? = some (b, oA .int vd)) (hz : ¬ z < 0 ∧ vs.length = z.toNatClampNeg) (hz' : ¬ z' < 0 ∧ vd.length = z'.toNatClampNeg)
    (hn : ¬ sp < 0 ∧ ¬ dp < 0 ∧ ¬ nn < 0) (hl : sp.toNatClampNeg + nn.toNatClampNeg ≤ vs.length ∧ dp.toNatClampNeg + nn.toNatClampNeg ≤ vd.length)
    (hus : vd.take dp.toNatClampNeg ++ ((List.range nn.toNatClampNeg).map fun i => vs.getD (sp.toNatClampNeg + i) (.int 0)) ++ vd.drop (dp.toNatClampNeg + nn.toNatClampNeg) = us)
    (hds : ds.set j2 (b, oA .int us) = ds') (hW : (st.map fun v => v.category).sum ≤ W) (hr : 1 ≤ R.frames ∧ W + (nativeFrameWords "java/lang/System" "arraycopy" 5 + 11) ≤ R.locals)
    (k : ∀ T, oB p l e R s m args below meth c Z h0 lo T cells slots ds' → oWin p e below Z h0 Q E (T.setTop (mkF m pc' ls st))) : oWin p e below Z h0 Q E (T.setTop (mkF m pc ls (.int nn :: .int dp :: .ref b :: .int sp :: .ref a :: st))) := by
  subst hp hds hus
  obtain ⟨hx, hZ, hlk, locs, X, N, H⟩ := B
  obtain ⟨ka, Aa⟩ := oArv (H.at h1).2 hz.1 hz.2
  obtain ⟨kb, Ab⟩ := oArv (H.at h2).2 hz'.1 hz'.2
  obtain ⟨T', h', L, X', e', N', K, A', stp⟩ := cpA X hx hZ hown w1 w2 w3 w4 rfl Aa Ab (Or.inl ⟨rfl, rfl⟩) hn.1 hn.2.1 hn.2.2 (by rw [← hz.2]; exact hl.1) (by rw [← hz'.2]; exact hl.2) rfl hl.2 N (H.at h2).1 (g := mkF m pc ls (.int nn :: .int dp :: .ref b :: .int sp :: .ref a :: st)) rfl hsz rfl hd hr.1 (W := W) (by simpa using hW) hr.2
  subst e'
  obtain ⟨c2, B1, B2, B3, B4, B5, B6⟩ := A'
  obtain ⟨c0, C1, C2, C3, C4, C5⟩ := (H.at h2).2
  have hlen : (vd.take dp.toNatClampNeg ++ ((List.range nn.toNatClampNeg).map fun i => vs.getD (sp.toNatClampNeg + i) (.int 0)) ++ vd.drop (dp.toNatClampNeg + nn.toNatClampNeg)).length = vd.length := by
    simp; have := hl.2; omega
  generalize (vd.take dp.toNatClampNeg ++ ((List.range nn.toNatClampNeg).map fun i => vs.getD (sp.toNatClampNeg + i) (.int 0)) ++ vd.drop (dp.toNatClampNeg + nn.toNatClampNeg)) = us at *
  have hs : c2.slots.size = us.length := by rw [B3, hlen, hz'.2]
  have es : c2.slots = us.toArray := by
    apply Array.ext_getElem?
    intro q
    by_cases hq : q < us.length
    · rw [B5 q (by rw [hs]; exact hq)]; simp [List.getD, hq]
    · rw [Array.getElem?_eq_none (by rw [hs]; omega)]; simp at hq ⊢; omega
  refine (k T' ⟨hx, hZ, hlk, L, X', N', H.keep h2 K ⟨c2, B1, es, (fun C q => by cases q), C4.keep K, fun v hv => ?_⟩⟩).step stp
  obtain ⟨q, hq, rfl⟩ := List.getElem_of_mem hv
  have := B6 q (by rw [hs]; exact hq)
  simpa [List.getD, hq] using this
end Rel
abbrev oM (h v : Int32) : Int32 := (h ^^^ v) * (-1640531535 : Int32)
abbrev oF (h : Int32) : Int32 := h ^^^ ((h.toUInt32 >>> ((16 : Int32) &&& 31).toUInt32).toInt32)
abbrev oH (x y z : Int32) : Int32 := oF (oM (oM (oM (0 : Int32) x) y) z)
abbrev oHd0 : List Value := [(.int (-1 : Int32)), (.int (-1 : Int32)), (.int (-1 : Int32)), (.int (-1 : Int32)), (.int (-1 : Int32)), (.int (-1 : Int32)), (.int (-1 : Int32)), (.int (-1 : Int32)), (.int (-1 : Int32)), (.int (-1 : Int32)), (.int (-1 : Int32)), (.int (-1 : Int32)), (.int (-1 : Int32)), (.int (-1 : Int32)), (.int (-1 : Int32)), (.int (-1 : Int32))]
theorem own_i0 (h : Int32) : ¬ (h &&& (15 : Int32)) < (0 : Int32) := by
  refine onltI_i ?_
  have q := c_and h 15 (by decide)
  have e0 : (0 : Int32).toInt = 0 := rfl
  omega
theorem own_il (h : Int32) : (h &&& (15 : Int32)).toNatClampNeg < 16 := by
  have q := c_and h 15 (by decide)
  have e0 : (15 : Int32).toInt = 15 := rfl
  simp only [Int32.toNatClampNeg]
  omega
theorem own_L0 (h : Int32) : oHd0[(h &&& (15 : Int32)).toNatClampNeg]? = some (.int (-1 : Int32)) := by
  have e : oHd0 = List.replicate 16 (.int (-1 : Int32)) := rfl
  rw [e, List.getElem?_replicate, if_pos (own_il h)]
theorem own_hit {l : List Value} (hl : l.length = 16) (h : Int32) (v : Value) : (l.set (h &&& (15 : Int32)).toNatClampNeg v)[(h &&& (15 : Int32)).toNatClampNeg]? = some v := List.getElem?_set_self (by rw [hl]; exact own_il h)
theorem own_ne {h k : Int32} (ne : ¬ (h &&& (15 : Int32)) = (k &&& (15 : Int32))) : (h &&& (15 : Int32)).toNatClampNeg ≠ (k &&& (15 : Int32)).toNatClampNeg := fun q => by
  have q1 := c_and h 15 (by decide)
  have q2 := c_and k 15 (by decide)
  refine ne (otoI ?_)
  simp only [Int32.toNatClampNeg] at q
  omega
theorem own_miss {l : List Value} {h k : Int32} (ne : ¬ (h &&& (15 : Int32)) = (k &&& (15 : Int32))) (v : Value) : (l.set (h &&& (15 : Int32)).toNatClampNeg v)[(k &&& (15 : Int32)).toNatClampNeg]? = l[(k &&& (15 : Int32)).toNatClampNeg]? := List.getElem?_set_ne (own_ne ne)
/-- the lambda -/
abbrev sgm : Lambda.Shape := Lambda.Shape.mk "java/util/function/IntUnaryOperator" "applyAsInt" ⟨[.int], some .int⟩ [] 6 "com/example/tanglemark/tanglemark/datalog/Relation" "lambda$new$0" ⟨[.int], some .int⟩ false ⟨[.int], some .int⟩
abbrev xI : MethodName := ⟨"com/example/tanglemark/tanglemark/datalog/Relation", "<init>", "(Ljava/lang/String;II)V"⟩
abbrev yL : MethodName := ⟨"com/example/tanglemark/tanglemark/datalog/Relation", "lambda$new$0", "(I)I"⟩
abbrev xiL : MethodName := ⟨"java/util/function/IntUnaryOperator", "applyAsInt", "(I)I"⟩
def own_fc : ByteArray := ⟨#[0x1b, 0xb8, 0x00, 0x11, 0xac]⟩
theorem own_fwd : LamKit.fwdOK sgm xI.cls own_fc 2 (some .int) 17 14 = true := by decide +kernel
theorem own_f0 : decode own_fc 0 = .ok (.iload_n 1, 1) := by decide +kernel
theorem own_f1 : decode own_fc 1 = .ok (.invokestatic 17, 3) := by decide +kernel
theorem own_f4 : decode own_fc 4 = .ok (.ireturn, 1) := by decide +kernel
theorem own_l0 : decode prog_45_method_36_code 0 = .ok (.iload_n 0, 1) := by decide +kernel
theorem own_l1 : decode prog_45_method_36_code 1 = .ok (.ireturn, 1) := by decide +kernel
theorem own_plL : plainFor yL = true := by decide +kernel
theorem own_target (l : Launch) (v : Int32) : Met l yL [Jvm.Cond.code yL prog_45_method_36_code 1 (some .int)] { frames := 0, cells := 0, slots := 0, locals := 0 } (fun args _ => args = #[.int v]) (fun _ s1 o t => o = .returned (some (.int v)) ∧ t.heap = s1.heap) 0 0 (fun _ => False) := by
  refine MetFree.of_bodyS (code := prog_45_method_36_code) (maxLocals := 1) (ret := some .int) own_plL (LamKit.hisOf (List.mem_singleton.mpr rfl)) ?_
  intro p e s m args below meth c s₁ Bd hml hP _
  obtain rfl : args = #[.int v] := hP
  have X := Stand.of_body Bd
  obtain ⟨fs, hr, hrun, hended, hW, hsame⟩ := X.leave (v := some (.int v)) (fun h => by rw [Bd.returns] at h; cases h)
  have e0 : s₁.heap = s.heap := by rw [Bd.state]; rfl
  refine ⟨s₁.setFrames fs, _, ?_, hrun, hended, ⟨rfl, e0⟩, [], ⟨⟨_, rfl⟩, hW, hsame⟩, fun q hq => nomatch hq⟩
  show Steps p.tables e below (s₁.setTop (mkF m 0 #[iv v] [])) _
  refine XS.iloadN X.here Bd.exec rfl (hb Bd.bytes own_l0) rfl ?_
  exact X.ireturnOut Bd.exec Bd.returns rfl (Or.inl rfl) (hb Bd.bytes own_l1) hr
abbrev fk0 : oFK := ("com/example/tanglemark/tanglemark/datalog/Relation", "indexes", "Ljava/util/List;")
abbrev fk1 : oFK := ("com/example/tanglemark/tanglemark/datalog/Relation", "name", "Ljava/lang/String;")
abbrev fk2 : oFK := ("com/example/tanglemark/tanglemark/datalog/Relation", "arity", "I")
abbrev fk3 : oFK := ("com/example/tanglemark/tanglemark/datalog/Relation", "maxArray", "I")
abbrev fk4 : oFK := ("com/example/tanglemark/tanglemark/datalog/Relation", "maxBuckets", "I")
abbrev fk5 : oFK := ("com/example/tanglemark/tanglemark/datalog/Relation", "data", "[I")
abbrev fk6 : oFK := ("com/example/tanglemark/tanglemark/datalog/Relation", "allColumns", "[I")
abbrev fk7 : oFK := ("com/example/tanglemark/tanglemark/datalog/Relation", "factored", "Lcom/example/tanglemark/tanglemark/datalog/FactoredRows;")
abbrev fk8 : oFK := ("com/example/tanglemark/tanglemark/datalog/Relation", "frozen", "Z")
abbrev fk9 : oFK := ("com/example/tanglemark/tanglemark/datalog/Relation", "size", "I")
abbrev fk10 : oFK := ("com/example/tanglemark/tanglemark/datalog/Relation", "unique", "Lcom/example/tanglemark/tanglemark/datalog/Relation$Chains;")
theorem own_strAtoms {Z : State} {a0 : Array Value} (hw : ∀ d ∈ tables_1, d.before a0 Z = true) : ∀ a ∈ Bundle.stringAtoms, a.before a0 Z = true := by
  intro d hd
  simp only [Bundle.stringAtoms, List.mem_cons, List.not_mem_nil, or_false] at hd
  rcases hd with rfl | rfl | rfl | rfl | rfl | rfl | rfl
  · exact (ow hw (i := 5) rfl)
  · exact (ow hw (i := 6) rfl)
  · exact (ow hw (i := 7) rfl)
  · exact (ow hw (i := 8) rfl)
  · exact (ow hw (i := 9) rfl)
  · exact (ow hw (i := 10) rfl)
  · exact (ow hw (i := 11) rfl)
abbrev cn0 : String := "com/example/tanglemark/tanglemark/datalog/Relation"
theorem d1_0 : decode prog_45_method_1_code 0 = .ok (.aload_n 0, 1) := by decide +kernel
theorem d1_1 : decode prog_45_method_1_code 1 = .ok (.aload_n 1, 1) := by decide +kernel
theorem d1_2 : decode prog_45_method_1_code 2 = .ok (.iload_n 2, 1) := by decide +kernel
theorem d1_3 : decode prog_45_method_1_code 3 = .ok (.ldc 5, 2) := by decide +kernel
theorem d1_5 : decode prog_45_method_1_code 5 = .ok (.invokespecial 6, 3) := by decide +kernel
theorem d2_0 : decode prog_45_method_2_code 0 = .ok (.aload_n 0, 1) := by decide +kernel
theorem d2_1 : decode prog_45_method_2_code 1 = .ok (.invokespecial 10, 3) := by decide +kernel
theorem d2_4 : decode prog_45_method_2_code 4 = .ok (.aload_n 0, 1) := by decide +kernel
theorem d2_5 : decode prog_45_method_2_code 5 = .ok (.new 15, 3) := by decide +kernel
abbrev fk11 : oFK := ("java/util/AbstractList", "modCount", "I")
abbrev fk12 : oFK := ("java/util/ArrayList", "elementData", "[Ljava/lang/Object;")
abbrev fk13 : oFK := ("java/util/ArrayList", "size", "I")
theorem d2_8 : decode prog_45_method_2_code 8 = .ok (.dup, 1) := by decide +kernel
theorem d2_9 : decode prog_45_method_2_code 9 = .ok (.invokespecial 17, 3) := by decide +kernel
abbrev cn1 : String := "java/util/ArrayList"
theorem d4_0 : decode jdk_38_method_2_code 0 = .ok (.aload_n 0, 1) := by decide +kernel
theorem d4_1 : decode jdk_38_method_2_code 1 = .ok (.invokespecial 1, 3) := by decide +kernel
theorem d5_0 : decode jdk_39_method_1_code 0 = .ok (.aload_n 0, 1) := by decide +kernel
theorem d5_1 : decode jdk_39_method_1_code 1 = .ok (.invokespecial 1, 3) := by decide +kernel
theorem d6_0 : decode jdk_22_method_1_code 0 = .ok (.aload_n 0, 1) := by decide +kernel
theorem d6_1 : decode jdk_22_method_1_code 1 = .ok (.invokespecial 1, 3) := by decide +kernel
theorem d6_4 : decode jdk_22_method_1_code 4 = .ok (.return_, 1) := by decide +kernel
theorem ef_rm_a1 (m : MethodId) (x0 : Addr) : entryFrame m #[(.ref x0)] 1 = mkF m 0 #[.val (.ref x0)] [] := by first | (simp [entryFrame, mkF, argsToLocals, Value.category]; done) | rfl
theorem pn_0 : plainName "java/util/AbstractCollection" = true := by first | (simp [plainName, overriddenIn]; done) | decide +kernel
set_option maxRecDepth 65536 in
set_option maxHeartbeats 40000000 in
theorem rm_a1 (l : Launch) (Z : State) (a0 : Array Value) (hw : ∀ d ∈ tables_1, d.before a0 Z = true) (h0 : Heap) {lo : Nat} (ka1 : Addr) (ds : oDs) :
    oMet l Z h0 lo (⟨"java/util/AbstractCollection", "<init>", "()V"⟩ : MethodName) jdk_22_method_1_code 1 none [] ({ frames := 1, cells := 0, slots := 0, locals := 12 } : Room) #[(.ref ka1)] (ds) (fun (v : Option Value) (d : oDs) => (v = none ∧ (ds) = d)) := by
  refine oMet.of_body (plainFor_of_name pn_0) ?_
  intro p e s m below meth c T B hby hml hown hnm hret
  refine W_entry (ef_rm_a1 m ka1) ?_
  refine W_aloadN B (hb hby d6_0) (pc' := 1) rfl rfl rfl ?_
  refine W_initO B hown (ow hw (i := 40) rfl) (ow hw (i := 20) rfl) (ow hw (i := 21) rfl) (hb hby d6_1) (pc' := 4) rfl (by rw [hml]; rfl) (W := 0) (oLe rfl) (by decide) ?_
  intro T B
  refine W_retV B hret (hb hby d6_4) (by decide) ?_
  exact ⟨rfl, rfl⟩
theorem pd_0 : parseMethodDescriptor "()V" = some ⟨[], none⟩ := by decide +kernel
theorem d5_4 : decode jdk_39_method_1_code 4 = .ok (.aload_n 0, 1) := by decide +kernel
theorem d5_5 : decode jdk_39_method_1_code 5 = .ok (.iconst 0, 1) := by decide +kernel
theorem d5_6 : decode jdk_39_method_1_code 6 = .ok (.putfield 7, 3) := by decide +kernel
theorem d5_9 : decode jdk_39_method_1_code 9 = .ok (.return_, 1) := by decide +kernel
theorem ef_rm_a2 (m : MethodId) (x0 : Addr) : entryFrame m #[(.ref x0)] 1 = mkF m 0 #[.val (.ref x0)] [] := by first | (simp [entryFrame, mkF, argsToLocals, Value.category]; done) | rfl
theorem pn_1 : plainName "java/util/AbstractList" = true := by first | (simp [plainName, overriddenIn]; done) | decide +kernel
set_option maxRecDepth 65536 in
set_option maxHeartbeats 40000000 in
theorem rm_a2 (l : Launch) (Z : State) (a0 : Array Value) (hw : ∀ d ∈ tables_1, d.before a0 Z = true) (h0 : Heap) {lo : Nat} (ka1 : Addr) (ds : oDs) :
    oMet l Z h0 lo (⟨"java/util/AbstractList", "<init>", "()V"⟩ : MethodName) jdk_39_method_1_code 1 none [] ({ frames := 2, cells := 0, slots := 0, locals := 24 } : Room) #[(.ref ka1)] ((ka1, oO cn1 [(fk11, (.int (0 : Int32))), (fk12, .null), (fk13, (.int (0 : Int32)))]) :: ds) (fun (v : Option Value) (d : oDs) => (v = none ∧ ((ka1, oO cn1 [(fk11, (.int (0 : Int32))), (fk12, .null), (fk13, (.int (0 : Int32)))]) :: ds) = d)) := by
  refine oMet.of_body (plainFor_of_name pn_1) ?_
  intro p e s m below meth c T B hby hml hown hnm hret
  refine W_entry (ef_rm_a2 m ka1) ?_
  refine W_aloadN B (hb hby d5_0) (pc' := 1) rfl rfl rfl ?_
  refine W_init B (y := (⟨"java/util/AbstractCollection", "<init>", "()V"⟩ : MethodName)) hown rfl (ow hw (i := 34) rfl) (ow hw (i := 35) rfl) (ow hw (i := 38) rfl) (ow hw (i := 39) rfl) (by decide) (a := ka1) (rm_a1 l Z a0 hw h0 ka1 _ ) (lenOf pd_0 rfl) (hb hby d5_1) (pc' := 4) rfl (argsL := []) (rest := []) rfl (by rw [hml]; rfl) (W := 0) (oLe rfl) (by decide) (cells' := 0) rfl (slots' := 0) rfl ?_
  intro T v_ d_ q_ B
  obtain ⟨rfl, rfl⟩ := q_
  show oWin p e below Z h0 _ _ (T.setTop (mkF m 4 #[.val (.ref ka1)] []))
  refine W_aloadN B (hb hby d5_4) (pc' := 5) rfl rfl rfl ?_
  refine W_iconst B (hb hby d5_5) (pc' := 6) rfl (z := (0 : Int32)) (by decide) ?_
  refine W_putfield B hown (host := "") (Or.inl (ow hw (i := 41) rfl)) Via.refl (hb hby d5_6) (pc' := 9) rfl (Or.inl (ow hw (i := 42) rfl)) (ow hw (i := 23) rfl) (ty := .int) (by decide) rfl rfl (j := 0) rfl (q := 0) rfl (ds' := ((ka1, oO cn1 [(fk11, (.int (0 : Int32))), (fk12, .null), (fk13, (.int (0 : Int32)))]) :: ds)) rfl ?_
  intro T B
  refine W_retV B hret (hb hby d5_9) (by decide) ?_
  exact ⟨rfl, rfl⟩
theorem d4_4 : decode jdk_38_method_2_code 4 = .ok (.aload_n 0, 1) := by decide +kernel
theorem d4_5 : decode jdk_38_method_2_code 5 = .ok (.getstatic 39, 3) := by decide +kernel
theorem d4_8 : decode jdk_38_method_2_code 8 = .ok (.putfield 9, 3) := by decide +kernel
theorem d4_11 : decode jdk_38_method_2_code 11 = .ok (.return_, 1) := by decide +kernel
theorem ef_rm_a3 (m : MethodId) (x0 : Addr) : entryFrame m #[(.ref x0)] 1 = mkF m 0 #[.val (.ref x0)] [] := by first | (simp [entryFrame, mkF, argsToLocals, Value.category]; done) | rfl
theorem pn_2 : plainName "java/util/ArrayList" = true := by first | (simp [plainName, overriddenIn]; done) | decide +kernel
set_option maxRecDepth 65536 in
set_option maxHeartbeats 40000000 in
theorem rm_a3 (l : Launch) (Z : State) (a0 : Array Value) (hw : ∀ d ∈ tables_1, d.before a0 Z = true) (h0 : Heap) {lo : Nat} (ka1 : Addr) (ds : oDs) (de : Addr) (hy0 : Sta Z h0 "java/util/ArrayList" "DEFAULTCAPACITY_EMPTY_ELEMENTDATA" "[Ljava/lang/Object;" (.ref de)) :
    oMet l Z h0 lo (⟨"java/util/ArrayList", "<init>", "()V"⟩ : MethodName) jdk_38_method_2_code 1 none [] ({ frames := 3, cells := 0, slots := 0, locals := 36 } : Room) #[(.ref ka1)] ((ka1, oO cn1 [(fk11, (.int (0 : Int32))), (fk12, .null), (fk13, (.int (0 : Int32)))]) :: ds) (fun (v : Option Value) (d : oDs) => (v = none ∧ ((ka1, oO cn1 [(fk11, (.int (0 : Int32))), (fk12, (.ref de)), (fk13, (.int (0 : Int32)))]) :: ds) = d)) := by
  refine oMet.of_body (plainFor_of_name pn_2) ?_
  intro p e s m below meth c T B hby hml hown hnm hret
  refine W_entry (ef_rm_a3 m ka1) ?_
  refine W_aloadN B (hb hby d4_0) (pc' := 1) rfl rfl rfl ?_
  refine W_init B (y := (⟨"java/util/AbstractList", "<init>", "()V"⟩ : MethodName)) hown rfl (ow hw (i := 28) rfl) (ow hw (i := 29) rfl) (ow hw (i := 32) rfl) (ow hw (i := 33) rfl) (by decide) (a := ka1) (rm_a2 l Z a0 hw h0 ka1 _ ) (lenOf pd_0 rfl) (hb hby d4_1) (pc' := 4) rfl (argsL := []) (rest := []) rfl (by rw [hml]; rfl) (W := 0) (oLe rfl) (by decide) (cells' := 0) rfl (slots' := 0) rfl ?_
  intro T v_ d_ q_ B
  obtain ⟨rfl, rfl⟩ := q_
  show oWin p e below Z h0 _ _ (T.setTop (mkF m 4 #[.val (.ref ka1)] []))
  refine W_aloadN B (hb hby d4_4) (pc' := 5) rfl rfl rfl ?_
  refine W_getstatic B hown (host := "") (Or.inl (ow hw (i := 43) rfl)) Via.refl hy0 (hb hby d4_5) (pc' := 8) rfl ?_
  intro T B
  refine W_putfield B hown (host := "") (Or.inl (ow hw (i := 44) rfl)) Via.refl (hb hby d4_8) (pc' := 11) rfl (Or.inl (ow hw (i := 45) rfl)) (ow hw (i := 23) rfl) (ty := (.array (.object "java/lang/Object"))) (by decide) rfl rfl (j := 0) rfl (q := 1) rfl (ds' := ((ka1, oO cn1 [(fk11, (.int (0 : Int32))), (fk12, (.ref de)), (fk13, (.int (0 : Int32)))]) :: ds)) rfl ?_
  intro T B
  refine W_retV B hret (hb hby d4_11) (by decide) ?_
  exact ⟨rfl, rfl⟩
theorem d2_12 : decode prog_45_method_2_code 12 = .ok (.putfield 18, 3) := by decide +kernel
theorem d2_15 : decode prog_45_method_2_code 15 = .ok (.aload_n 0, 1) := by decide +kernel
theorem d2_16 : decode prog_45_method_2_code 16 = .ok (.aload_n 1, 1) := by decide +kernel
theorem d2_17 : decode prog_45_method_2_code 17 = .ok (.putfield 22, 3) := by decide +kernel
theorem d2_20 : decode prog_45_method_2_code 20 = .ok (.aload_n 0, 1) := by decide +kernel
theorem d2_21 : decode prog_45_method_2_code 21 = .ok (.iload_n 2, 1) := by decide +kernel
theorem d2_22 : decode prog_45_method_2_code 22 = .ok (.putfield 26, 3) := by decide +kernel
theorem d2_25 : decode prog_45_method_2_code 25 = .ok (.aload_n 0, 1) := by decide +kernel
theorem d2_26 : decode prog_45_method_2_code 26 = .ok (.iload_n 3, 1) := by decide +kernel
theorem d2_27 : decode prog_45_method_2_code 27 = .ok (.putfield 30, 3) := by decide +kernel
theorem d2_30 : decode prog_45_method_2_code 30 = .ok (.aload_n 0, 1) := by decide +kernel
theorem d2_31 : decode prog_45_method_2_code 31 = .ok (.iload_n 3, 1) := by decide +kernel
theorem d2_32 : decode prog_45_method_2_code 32 = .ok (.invokestatic 33, 3) := by decide +kernel
theorem d7_0 : decode jdk_33_method_45_code 0 = .ok (.iload_n 0, 1) := by decide +kernel
theorem d7_1 : decode jdk_33_method_45_code 1 = .ok (.ldc 127, 2) := by decide +kernel
theorem d7_3 : decode jdk_33_method_45_code 3 = .ok (.iload_n 0, 1) := by decide +kernel
theorem d7_4 : decode jdk_33_method_45_code 4 = .ok (.invokestatic 51, 3) := by decide +kernel
theorem d8_0 : decode jdk_33_method_47_code 0 = .ok (.iload_n 0, 1) := by decide +kernel
theorem d8_1 : decode jdk_33_method_47_code 1 = .ok (.ifCond .gt 14, 3) := by decide +kernel
theorem d8_15 : decode jdk_33_method_47_code 15 = .ok (.bipush 31, 2) := by decide +kernel
theorem d8_17 : decode jdk_33_method_47_code 17 = .ok (.istore_n 1, 1) := by decide +kernel
theorem d8_18 : decode jdk_33_method_47_code 18 = .ok (.iload_n 0, 1) := by decide +kernel
theorem d8_19 : decode jdk_33_method_47_code 19 = .ok (.ldc_w 264, 3) := by decide +kernel
theorem d8_22 : decode jdk_33_method_47_code 22 = .ok (.if_icmp .lt 11, 3) := by decide +kernel
theorem d8_25 : decode jdk_33_method_47_code 25 = .ok (.iinc 1 (-16), 3) := by decide +kernel
theorem d8_28 : decode jdk_33_method_47_code 28 = .ok (.iload_n 0, 1) := by decide +kernel
theorem d8_29 : decode jdk_33_method_47_code 29 = .ok (.bipush 16, 2) := by decide +kernel
theorem d8_31 : decode jdk_33_method_47_code 31 = .ok (.iushr, 1) := by decide +kernel
theorem d8_32 : decode jdk_33_method_47_code 32 = .ok (.istore_n 0, 1) := by decide +kernel
theorem d8_33 : decode jdk_33_method_47_code 33 = .ok (.iload_n 0, 1) := by decide +kernel
theorem d8_34 : decode jdk_33_method_47_code 34 = .ok (.sipush 256, 3) := by decide +kernel
theorem d8_37 : decode jdk_33_method_47_code 37 = .ok (.if_icmp .lt 11, 3) := by decide +kernel
theorem d8_40 : decode jdk_33_method_47_code 40 = .ok (.iinc 1 (-8), 3) := by decide +kernel
theorem d8_43 : decode jdk_33_method_47_code 43 = .ok (.iload_n 0, 1) := by decide +kernel
theorem d8_44 : decode jdk_33_method_47_code 44 = .ok (.bipush 8, 2) := by decide +kernel
theorem d8_46 : decode jdk_33_method_47_code 46 = .ok (.iushr, 1) := by decide +kernel
theorem d8_47 : decode jdk_33_method_47_code 47 = .ok (.istore_n 0, 1) := by decide +kernel
theorem d8_48 : decode jdk_33_method_47_code 48 = .ok (.iload_n 0, 1) := by decide +kernel
theorem d8_49 : decode jdk_33_method_47_code 49 = .ok (.bipush 16, 2) := by decide +kernel
theorem d8_51 : decode jdk_33_method_47_code 51 = .ok (.if_icmp .lt 10, 3) := by decide +kernel
theorem d8_54 : decode jdk_33_method_47_code 54 = .ok (.iinc 1 (-4), 3) := by decide +kernel
theorem d8_57 : decode jdk_33_method_47_code 57 = .ok (.iload_n 0, 1) := by decide +kernel
theorem d8_58 : decode jdk_33_method_47_code 58 = .ok (.iconst 4, 1) := by decide +kernel
theorem d8_59 : decode jdk_33_method_47_code 59 = .ok (.iushr, 1) := by decide +kernel
theorem d8_60 : decode jdk_33_method_47_code 60 = .ok (.istore_n 0, 1) := by decide +kernel
theorem d8_61 : decode jdk_33_method_47_code 61 = .ok (.iload_n 0, 1) := by decide +kernel
theorem d8_62 : decode jdk_33_method_47_code 62 = .ok (.iconst 4, 1) := by decide +kernel
theorem d8_63 : decode jdk_33_method_47_code 63 = .ok (.if_icmp .lt 10, 3) := by decide +kernel
theorem d8_66 : decode jdk_33_method_47_code 66 = .ok (.iinc 1 (-2), 3) := by decide +kernel
theorem d8_69 : decode jdk_33_method_47_code 69 = .ok (.iload_n 0, 1) := by decide +kernel
theorem d8_70 : decode jdk_33_method_47_code 70 = .ok (.iconst 2, 1) := by decide +kernel
theorem d8_71 : decode jdk_33_method_47_code 71 = .ok (.iushr, 1) := by decide +kernel
theorem d8_72 : decode jdk_33_method_47_code 72 = .ok (.istore_n 0, 1) := by decide +kernel
theorem d8_73 : decode jdk_33_method_47_code 73 = .ok (.iload_n 1, 1) := by decide +kernel
theorem d8_74 : decode jdk_33_method_47_code 74 = .ok (.iload_n 0, 1) := by decide +kernel
theorem d8_75 : decode jdk_33_method_47_code 75 = .ok (.iconst 1, 1) := by decide +kernel
theorem d8_76 : decode jdk_33_method_47_code 76 = .ok (.iushr, 1) := by decide +kernel
theorem d8_77 : decode jdk_33_method_47_code 77 = .ok (.isub, 1) := by decide +kernel
theorem d8_78 : decode jdk_33_method_47_code 78 = .ok (.ireturn, 1) := by decide +kernel
theorem ef_rm_a4 (m : MethodId)  : entryFrame m #[(.int (2147483639 : Int32))] 2 = mkF m 0 #[.val (.int (2147483639 : Int32)), .unset] [] := by first | (simp [entryFrame, mkF, argsToLocals, Value.category]; done) | rfl
theorem pn_3 : plainName "java/lang/Integer" = true := by first | (simp [plainName, overriddenIn]; done) | decide +kernel
set_option maxRecDepth 65536 in
set_option maxHeartbeats 40000000 in
theorem rm_a4 (l : Launch) (Z : State) (a0 : Array Value) (hw : ∀ d ∈ tables_1, d.before a0 Z = true) (h0 : Heap) {lo : Nat} (ds : oDs) :
    oMet l Z h0 lo (⟨"java/lang/Integer", "numberOfLeadingZeros", "(I)I"⟩ : MethodName) jdk_33_method_47_code 2 (some .int) [] ({ frames := 0, cells := 0, slots := 0, locals := 0 } : Room) #[(.int (2147483639 : Int32))] (ds) (fun (v : Option Value) (d : oDs) => (v = some (.int (1 : Int32)) ∧ (ds) = d)) := by
  refine oMet.of_body (plainFor_of_name pn_3) ?_
  intro p e s m below meth c T B hby hml hown hnm hret
  refine W_entry (ef_rm_a4 m ) ?_
  refine W_iloadN B (hb hby d8_0) (pc' := 1) rfl rfl ?_
  refine W_ifY B (hb hby d8_1) (by decide) (pc' := 15) (by decide) (by decide) ?_
  refine W_bipush B (hb hby d8_15) (pc' := 17) rfl (z := (31 : Int32)) (by decide) ?_
  refine W_istoreN B (hb hby d8_17) (pc' := 18) rfl (v := (31 : Int32)) rfl (ls' := #[.val (.int (2147483639 : Int32)), .val (.int (31 : Int32))]) rfl ?_
  refine W_iloadN B (hb hby d8_18) (pc' := 19) rfl rfl ?_
  refine W_ldcWInt B hown (ow hw (i := 62) rfl) (hb hby d8_19) (pc' := 22) rfl ?_
  refine W_icmpN B (hb hby d8_22) (pc' := 25) rfl (by decide) ?_
  refine W_iinc B (hb hby d8_25) (pc' := 28) rfl rfl (z := (15 : Int32)) (by decide) (ls' := #[.val (.int (2147483639 : Int32)), .val (.int (15 : Int32))]) rfl ?_
  refine W_iloadN B (hb hby d8_28) (pc' := 29) rfl rfl ?_
  refine W_bipush B (hb hby d8_29) (pc' := 31) rfl (z := (16 : Int32)) (by decide) ?_
  refine W_iushr B (hb hby d8_31) (pc' := 32) rfl (z := (32767 : Int32)) (by decide) ?_
  refine W_istoreN B (hb hby d8_32) (pc' := 33) rfl (v := (32767 : Int32)) rfl (ls' := #[.val (.int (32767 : Int32)), .val (.int (15 : Int32))]) rfl ?_
  refine W_iloadN B (hb hby d8_33) (pc' := 34) rfl rfl ?_
  refine W_sipush B (hb hby d8_34) (pc' := 37) rfl (z := (256 : Int32)) (by decide) ?_
  refine W_icmpN B (hb hby d8_37) (pc' := 40) rfl (by decide) ?_
  refine W_iinc B (hb hby d8_40) (pc' := 43) rfl rfl (z := (7 : Int32)) (by decide) (ls' := #[.val (.int (32767 : Int32)), .val (.int (7 : Int32))]) rfl ?_
  refine W_iloadN B (hb hby d8_43) (pc' := 44) rfl rfl ?_
  refine W_bipush B (hb hby d8_44) (pc' := 46) rfl (z := (8 : Int32)) (by decide) ?_
  refine W_iushr B (hb hby d8_46) (pc' := 47) rfl (z := (127 : Int32)) (by decide) ?_
  refine W_istoreN B (hb hby d8_47) (pc' := 48) rfl (v := (127 : Int32)) rfl (ls' := #[.val (.int (127 : Int32)), .val (.int (7 : Int32))]) rfl ?_
  refine W_iloadN B (hb hby d8_48) (pc' := 49) rfl rfl ?_
  refine W_bipush B (hb hby d8_49) (pc' := 51) rfl (z := (16 : Int32)) (by decide) ?_
  refine W_icmpN B (hb hby d8_51) (pc' := 54) rfl (by decide) ?_
  refine W_iinc B (hb hby d8_54) (pc' := 57) rfl rfl (z := (3 : Int32)) (by decide) (ls' := #[.val (.int (127 : Int32)), .val (.int (3 : Int32))]) rfl ?_
  refine W_iloadN B (hb hby d8_57) (pc' := 58) rfl rfl ?_
  refine W_iconst B (hb hby d8_58) (pc' := 59) rfl (z := (4 : Int32)) (by decide) ?_
  refine W_iushr B (hb hby d8_59) (pc' := 60) rfl (z := (7 : Int32)) (by decide) ?_
  refine W_istoreN B (hb hby d8_60) (pc' := 61) rfl (v := (7 : Int32)) rfl (ls' := #[.val (.int (7 : Int32)), .val (.int (3 : Int32))]) rfl ?_
  refine W_iloadN B (hb hby d8_61) (pc' := 62) rfl rfl ?_
  refine W_iconst B (hb hby d8_62) (pc' := 63) rfl (z := (4 : Int32)) (by decide) ?_
  refine W_icmpN B (hb hby d8_63) (pc' := 66) rfl (by decide) ?_
  refine W_iinc B (hb hby d8_66) (pc' := 69) rfl rfl (z := (1 : Int32)) (by decide) (ls' := #[.val (.int (7 : Int32)), .val (.int (1 : Int32))]) rfl ?_
  refine W_iloadN B (hb hby d8_69) (pc' := 70) rfl rfl ?_
  refine W_iconst B (hb hby d8_70) (pc' := 71) rfl (z := (2 : Int32)) (by decide) ?_
  refine W_iushr B (hb hby d8_71) (pc' := 72) rfl (z := (1 : Int32)) (by decide) ?_
  refine W_istoreN B (hb hby d8_72) (pc' := 73) rfl (v := (1 : Int32)) rfl (ls' := #[.val (.int (1 : Int32)), .val (.int (1 : Int32))]) rfl ?_
  refine W_iloadN B (hb hby d8_73) (pc' := 74) rfl rfl ?_
  refine W_iloadN B (hb hby d8_74) (pc' := 75) rfl rfl ?_
  refine W_iconst B (hb hby d8_75) (pc' := 76) rfl (z := (1 : Int32)) (by decide) ?_
  refine W_iushr B (hb hby d8_76) (pc' := 77) rfl (z := (0 : Int32)) (by decide) ?_
  refine W_isub B (hb hby d8_77) (pc' := 78) rfl (z := (1 : Int32)) (by decide) ?_
  refine W_retI B hret (hb hby d8_78) (by decide) ?_
  exact ⟨rfl, rfl⟩
theorem pd_1 : parseMethodDescriptor "(I)I" = some ⟨[.int], some .int⟩ := by decide +kernel
theorem d7_7 : decode jdk_33_method_45_code 7 = .ok (.iushr, 1) := by decide +kernel
theorem d7_8 : decode jdk_33_method_45_code 8 = .ok (.iand, 1) := by decide +kernel
theorem d7_9 : decode jdk_33_method_45_code 9 = .ok (.ireturn, 1) := by decide +kernel
theorem ef_rm_a5 (m : MethodId)  : entryFrame m #[(.int (2147483639 : Int32))] 1 = mkF m 0 #[.val (.int (2147483639 : Int32))] [] := by first | (simp [entryFrame, mkF, argsToLocals, Value.category]; done) | rfl
set_option maxRecDepth 65536 in
set_option maxHeartbeats 40000000 in
theorem rm_a5 (l : Launch) (Z : State) (a0 : Array Value) (hw : ∀ d ∈ tables_1, d.before a0 Z = true) (h0 : Heap) {lo : Nat} (ds : oDs) :
    oMet l Z h0 lo (⟨"java/lang/Integer", "highestOneBit", "(I)I"⟩ : MethodName) jdk_33_method_45_code 1 (some .int) [] ({ frames := 1, cells := 0, slots := 0, locals := 15 } : Room) #[(.int (2147483639 : Int32))] (ds) (fun (v : Option Value) (d : oDs) => (v = some (.int (1073741824 : Int32)) ∧ (ds) = d)) := by
  refine oMet.of_body (plainFor_of_name pn_3) ?_
  intro p e s m below meth c T B hby hml hown hnm hret
  refine W_entry (ef_rm_a5 m ) ?_
  refine W_iloadN B (hb hby d7_0) (pc' := 1) rfl rfl ?_
  refine W_ldcInt B hown (ow hw (i := 58) rfl) (hb hby d7_1) (pc' := 3) rfl ?_
  refine W_iloadN B (hb hby d7_3) (pc' := 4) rfl rfl ?_
  refine W_callS B (y := (⟨"java/lang/Integer", "numberOfLeadingZeros", "(I)I"⟩ : MethodName)) hown (ow hw (i := 59) rfl) (ow hw (i := 60) rfl) (ow hw (i := 56) rfl) (ow hw (i := 61) rfl) (by decide) (rm_a4 l Z a0 hw h0 _ ) (lenOf pd_1 rfl) (hb hby d7_4) (pc' := 7) rfl (argsL := [(.int (2147483639 : Int32))]) (rest := [(.int (-2147483648 : Int32)), (.int (2147483639 : Int32))]) rfl (by rw [hml]; rfl) (W := 2) (oLe rfl) (by decide) (cells' := 0) rfl (slots' := 0) rfl ?_
  intro T v_ d_ q_ B
  obtain ⟨rfl, rfl⟩ := q_
  show oWin p e below Z h0 _ _ (T.setTop (mkF m 7 #[.val (.int (2147483639 : Int32))] [(.int (1 : Int32)), (.int (-2147483648 : Int32)), (.int (2147483639 : Int32))]))
  refine W_iushr B (hb hby d7_7) (pc' := 8) rfl (z := (1073741824 : Int32)) (by decide) ?_
  refine W_iand B (hb hby d7_8) (pc' := 9) rfl (z := (1073741824 : Int32)) (by decide) ?_
  refine W_retI B hret (hb hby d7_9) (by decide) ?_
  exact ⟨rfl, rfl⟩
theorem d2_35 : decode prog_45_method_2_code 35 = .ok (.putfield 37, 3) := by decide +kernel
theorem d2_38 : decode prog_45_method_2_code 38 = .ok (.aload_n 0, 1) := by decide +kernel
theorem d2_39 : decode prog_45_method_2_code 39 = .ok (.bipush 16, 2) := by decide +kernel
theorem d2_41 : decode prog_45_method_2_code 41 = .ok (.iload_n 2, 1) := by decide +kernel
theorem d2_42 : decode prog_45_method_2_code 42 = .ok (.imul, 1) := by decide +kernel
theorem d2_43 : decode prog_45_method_2_code 43 = .ok (.iload_n 3, 1) := by decide +kernel
theorem d2_44 : decode prog_45_method_2_code 44 = .ok (.invokestatic 40, 3) := by decide +kernel
theorem d9_0 : decode jdk_29_method_69_code 0 = .ok (.iload_n 0, 1) := by decide +kernel
theorem d9_1 : decode jdk_29_method_69_code 1 = .ok (.iload_n 1, 1) := by decide +kernel
theorem d9_2 : decode jdk_29_method_69_code 2 = .ok (.if_icmp .gt 7, 3) := by decide +kernel
theorem d9_5 : decode jdk_29_method_69_code 5 = .ok (.iload_n 0, 1) := by decide +kernel
theorem d9_6 : decode jdk_29_method_69_code 6 = .ok (.goto 4, 3) := by decide +kernel
theorem d9_10 : decode jdk_29_method_69_code 10 = .ok (.ireturn, 1) := by decide +kernel
theorem ef_rm_a6 (m : MethodId)  : entryFrame m #[(.int (48 : Int32)), (.int (2147483639 : Int32))] 2 = mkF m 0 #[.val (.int (48 : Int32)), .val (.int (2147483639 : Int32))] [] := by first | (simp [entryFrame, mkF, argsToLocals, Value.category]; done) | rfl
set_option maxRecDepth 65536 in
set_option maxHeartbeats 40000000 in
theorem rm_a6 (l : Launch) (Z : State) (a0 : Array Value) (hw : ∀ d ∈ tables_1, d.before a0 Z = true) (h0 : Heap) {lo : Nat} (ds : oDs) :
    oMet l Z h0 lo (⟨"java/lang/Math", "min", "(II)I"⟩ : MethodName) jdk_29_method_69_code 2 (some .int) [] ({ frames := 0, cells := 0, slots := 0, locals := 0 } : Room) #[(.int (48 : Int32)), (.int (2147483639 : Int32))] (ds) (fun (v : Option Value) (d : oDs) => (v = some (.int (48 : Int32)) ∧ (ds) = d)) := by
  refine oMet.of_body (Jvm.Free.JP.mathPlain rfl (by decide +kernel)) ?_
  intro p e s m below meth c T B hby hml hown hnm hret
  refine W_entry (ef_rm_a6 m ) ?_
  refine W_iloadN B (hb hby d9_0) (pc' := 1) rfl rfl ?_
  refine W_iloadN B (hb hby d9_1) (pc' := 2) rfl rfl ?_
  refine W_icmpN B (hb hby d9_2) (pc' := 5) rfl (by decide) ?_
  refine W_iloadN B (hb hby d9_5) (pc' := 6) rfl rfl ?_
  refine W_goto B (hb hby d9_6) (by decide) (pc' := 10) (by decide) ?_
  refine W_retI B hret (hb hby d9_10) (by decide) ?_
  exact ⟨rfl, rfl⟩
theorem pd_2 : parseMethodDescriptor "(II)I" = some ⟨[.int, .int], some .int⟩ := by decide +kernel
theorem d2_47 : decode prog_45_method_2_code 47 = .ok (.newarray .int, 2) := by decide +kernel
theorem d2_49 : decode prog_45_method_2_code 49 = .ok (.putfield 46, 3) := by decide +kernel
theorem d2_52 : decode prog_45_method_2_code 52 = .ok (.aload_n 0, 1) := by decide +kernel
theorem d2_53 : decode prog_45_method_2_code 53 = .ok (.iload_n 2, 1) := by decide +kernel
theorem d2_54 : decode prog_45_method_2_code 54 = .ok (.newarray .int, 2) := by decide +kernel
theorem d2_56 : decode prog_45_method_2_code 56 = .ok (.putfield 50, 3) := by decide +kernel
theorem d2_59 : decode prog_45_method_2_code 59 = .ok (.aload_n 0, 1) := by decide +kernel
theorem d2_60 : decode prog_45_method_2_code 60 = .ok (.getfield 50, 3) := by decide +kernel
theorem d2_63 : decode prog_45_method_2_code 63 = .ok (.invokedynamic 53, 5) := by decide +kernel
theorem d2_68 : decode prog_45_method_2_code 68 = .ok (.invokestatic 57, 3) := by decide +kernel
theorem d10_0 : decode jdk_65_method_175_code 0 = .ok (.aload_n 1, 1) := by decide +kernel
theorem d10_1 : decode jdk_65_method_175_code 1 = .ok (.invokestatic 175, 3) := by decide +kernel
theorem d11_0 : decode jdk_31_method_10_code 0 = .ok (.aload_n 0, 1) := by decide +kernel
theorem d11_1 : decode jdk_31_method_10_code 1 = .ok (.ifnonnull 11, 3) := by decide +kernel
theorem d11_12 : decode jdk_31_method_10_code 12 = .ok (.aload_n 0, 1) := by decide +kernel
theorem d11_13 : decode jdk_31_method_10_code 13 = .ok (.areturn, 1) := by decide +kernel
theorem ef_rm_a7 (m : MethodId) (x0 : Addr) : entryFrame m #[(.ref x0)] 1 = mkF m 0 #[.val (.ref x0)] [] := by first | (simp [entryFrame, mkF, argsToLocals, Value.category]; done) | rfl
theorem pn_4 : plainName "java/util/Objects" = true := by first | (simp [plainName, overriddenIn]; done) | decide +kernel
set_option maxRecDepth 65536 in
set_option maxHeartbeats 40000000 in
theorem rm_a7 (l : Launch) (Z : State) (a0 : Array Value) (hw : ∀ d ∈ tables_1, d.before a0 Z = true) (h0 : Heap) {lo : Nat} (la : Addr) (ds : oDs) :
    oMet l Z h0 lo (⟨"java/util/Objects", "requireNonNull", "(Ljava/lang/Object;)Ljava/lang/Object;"⟩ : MethodName) jdk_31_method_10_code 1 (some (.object "java/lang/Object")) [] ({ frames := 0, cells := 0, slots := 0, locals := 0 } : Room) #[(.ref la)] (ds) (fun (v : Option Value) (d : oDs) => (v = some (.ref la) ∧ (ds) = d)) := by
  refine oMet.of_body (plainFor_of_name pn_4) ?_
  intro p e s m below meth c T B hby hml hown hnm hret
  refine W_entry (ef_rm_a7 m la) ?_
  refine W_aloadN B (hb hby d11_0) (pc' := 1) rfl rfl rfl ?_
  refine W_ifnonnullY B (hb hby d11_1) (by decide) (pc' := 12) (by decide) ?_
  refine W_aloadN B (hb hby d11_12) (pc' := 13) rfl rfl rfl ?_
  refine W_retA B hret rfl rfl (hb hby d11_13) (by decide) ?_
  exact ⟨rfl, rfl⟩
theorem pd_3 : parseMethodDescriptor "(Ljava/lang/Object;)Ljava/lang/Object;" = some ⟨[(.object "java/lang/Object")], some (.object "java/lang/Object")⟩ := by decide +kernel
theorem d10_4 : decode jdk_65_method_175_code 4 = .ok (.pop, 1) := by decide +kernel
theorem d10_5 : decode jdk_65_method_175_code 5 = .ok (.iconst 0, 1) := by decide +kernel
theorem d10_6 : decode jdk_65_method_175_code 6 = .ok (.istore_n 2, 1) := by decide +kernel
theorem d10_7 : decode jdk_65_method_175_code 7 = .ok (.iload_n 2, 1) := by decide +kernel
theorem d10_8 : decode jdk_65_method_175_code 8 = .ok (.aload_n 0, 1) := by decide +kernel
theorem d10_9 : decode jdk_65_method_175_code 9 = .ok (.arraylength, 1) := by decide +kernel
theorem d10_10 : decode jdk_65_method_175_code 10 = .ok (.if_icmp .ge 19, 3) := by decide +kernel
theorem d10_13 : decode jdk_65_method_175_code 13 = .ok (.aload_n 0, 1) := by decide +kernel
theorem d10_14 : decode jdk_65_method_175_code 14 = .ok (.iload_n 2, 1) := by decide +kernel
theorem d10_15 : decode jdk_65_method_175_code 15 = .ok (.aload_n 1, 1) := by decide +kernel
theorem d10_16 : decode jdk_65_method_175_code 16 = .ok (.iload_n 2, 1) := by decide +kernel
theorem d10_17 : decode jdk_65_method_175_code 17 = .ok (.invokeinterface 582 2, 5) := by decide +kernel
theorem d10_22 : decode jdk_65_method_175_code 22 = .ok (.iastore, 1) := by decide +kernel
theorem d10_23 : decode jdk_65_method_175_code 23 = .ok (.iinc 2 1, 3) := by decide +kernel
theorem d10_26 : decode jdk_65_method_175_code 26 = .ok (.goto (-19), 3) := by decide +kernel
theorem d10_29 : decode jdk_65_method_175_code 29 = .ok (.return_, 1) := by decide +kernel
theorem ef_rm_a8 (m : MethodId) (x0 : Addr) (x1 : Addr) : entryFrame m #[(.ref x0), (.ref x1)] 3 = mkF m 0 #[.val (.ref x0), .val (.ref x1), .unset] [] := by first | (simp [entryFrame, mkF, argsToLocals, Value.category]; done) | rfl
theorem pn_5 : plainName "java/util/Arrays" = true := by first | (simp [plainName, overriddenIn]; done) | decide +kernel
set_option maxRecDepth 65536 in
set_option maxHeartbeats 40000000 in
theorem rm_a8 (l : Launch) (Z : State) (a0 : Array Value) (hw : ∀ d ∈ tables_1, d.before a0 Z = true) (h0 : Heap) {lo : Nat} (ka1 : Addr) (la : Addr) (ds : oDs) (hy0 : oLam Z h0 xI 63 sgm la) :
    oMet l Z h0 lo (⟨"java/util/Arrays", "setAll", "([ILjava/util/function/IntUnaryOperator;)V"⟩ : MethodName) jdk_65_method_175_code 3 none [] ({ frames := 2, cells := 0, slots := 0, locals := 27 } : Room) #[(.ref ka1), (.ref la)] ((ka1, oA .int [o0, o0, o0]) :: ds) (fun (v : Option Value) (d : oDs) => (v = none ∧ ((ka1, oA .int [o0, (.int (1 : Int32)), (.int (2 : Int32))]) :: ds) = d)) := by
  refine oMet.of_body (plainFor_of_name pn_5) ?_
  intro p e s m below meth c T B hby hml hown hnm hret
  refine W_entry (ef_rm_a8 m ka1 la) ?_
  refine W_aloadN B (hb hby d10_0) (pc' := 1) rfl rfl rfl ?_
  refine W_callS B (y := (⟨"java/util/Objects", "requireNonNull", "(Ljava/lang/Object;)Ljava/lang/Object;"⟩ : MethodName)) hown (ow hw (i := 80) rfl) (ow hw (i := 81) rfl) (ow hw (i := 82) rfl) (ow hw (i := 83) rfl) (by decide) (rm_a7 l Z a0 hw h0 la _ ) (lenOf pd_3 rfl) (hb hby d10_1) (pc' := 4) rfl (argsL := [(.ref la)]) (rest := []) rfl (by rw [hml]; rfl) (W := 0) (oLe rfl) (by decide) (cells' := 0) rfl (slots' := 0) rfl ?_
  intro T v_ d_ q_ B
  obtain ⟨rfl, rfl⟩ := q_
  show oWin p e below Z h0 _ _ (T.setTop (mkF m 4 #[.val (.ref ka1), .val (.ref la), .unset] [(.ref la)]))
  refine W_pop B (hb hby d10_4) (pc' := 5) rfl rfl ?_
  refine W_iconst B (hb hby d10_5) (pc' := 6) rfl (z := (0 : Int32)) (by decide) ?_
  refine W_istoreN B (hb hby d10_6) (pc' := 7) rfl (v := (0 : Int32)) rfl (ls' := #[.val (.ref ka1), .val (.ref la), .val (.int (0 : Int32))]) rfl ?_
  refine W_iloadN B (hb hby d10_7) (pc' := 8) rfl rfl ?_
  refine W_aloadN B (hb hby d10_8) (pc' := 9) rfl rfl rfl ?_
  refine W_arraylength B (hb hby d10_9) (pc' := 10) rfl (j := 0) rfl (z := (3 : Int32)) rfl ?_
  refine W_icmpN B (hb hby d10_10) (pc' := 13) rfl (by decide) ?_
  refine W_aloadN B (hb hby d10_13) (pc' := 14) rfl rfl rfl ?_
  refine W_iloadN B (hb hby d10_14) (pc' := 15) rfl rfl ?_
  refine W_aloadN B (hb hby d10_15) (pc' := 16) rfl rfl rfl ?_
  refine W_iloadN B (hb hby d10_16) (pc' := 17) rfl rfl ?_
  refine W_lam B (v := (0 : Int32)) hy0 (own_target l _) hown (ow hw (i := 84) rfl) (ow hw (i := 85) rfl) (ow hw (i := 86) rfl) (ow hw (i := 88) rfl) (ow hw (i := 87) rfl) (ow hw (i := 3) rfl) (by decide +kernel) (by decide +kernel) (by decide) own_fwd own_f0 own_f1 own_f4 (lenOf pd_1 rfl) (lenOf pd_1 rfl) (hb hby d10_17) (pc' := 22) rfl (by rw [hml]; rfl) ⟨oLe rfl, oLe rfl, oLe rfl, oLe rfl⟩ ?_
  intro T B
  refine W_iastore B (hb hby d10_22) (pc' := 23) rfl (i := 0) rfl (by decide) (oLt rfl) (ds' := ((ka1, oA .int [o0, o0, o0]) :: ds)) rfl ?_
  intro T B
  refine W_iinc B (hb hby d10_23) (pc' := 26) rfl rfl (z := (1 : Int32)) (by decide) (ls' := #[.val (.ref ka1), .val (.ref la), .val (.int (1 : Int32))]) rfl ?_
  refine W_goto B (hb hby d10_26) (by decide) (pc' := 7) (by decide) ?_
  refine W_iloadN B (hb hby d10_7) (pc' := 8) rfl rfl ?_
  refine W_aloadN B (hb hby d10_8) (pc' := 9) rfl rfl rfl ?_
  refine W_arraylength B (hb hby d10_9) (pc' := 10) rfl (j := 0) rfl (z := (3 : Int32)) rfl ?_
  refine W_icmpN B (hb hby d10_10) (pc' := 13) rfl (by decide) ?_
  refine W_aloadN B (hb hby d10_13) (pc' := 14) rfl rfl rfl ?_
  refine W_iloadN B (hb hby d10_14) (pc' := 15) rfl rfl ?_
  refine W_aloadN B (hb hby d10_15) (pc' := 16) rfl rfl rfl ?_
  refine W_iloadN B (hb hby d10_16) (pc' := 17) rfl rfl ?_
  refine W_lam B (v := (1 : Int32)) hy0 (own_target l _) hown (ow hw (i := 84) rfl) (ow hw (i := 85) rfl) (ow hw (i := 86) rfl) (ow hw (i := 88) rfl) (ow hw (i := 87) rfl) (ow hw (i := 3) rfl) (by decide +kernel) (by decide +kernel) (by decide) own_fwd own_f0 own_f1 own_f4 (lenOf pd_1 rfl) (lenOf pd_1 rfl) (hb hby d10_17) (pc' := 22) rfl (by rw [hml]; rfl) ⟨oLe rfl, oLe rfl, oLe rfl, oLe rfl⟩ ?_
  intro T B
  refine W_iastore B (hb hby d10_22) (pc' := 23) rfl (i := 0) rfl (by decide) (oLt rfl) (ds' := ((ka1, oA .int [o0, (.int (1 : Int32)), o0]) :: ds)) rfl ?_
  intro T B
  refine W_iinc B (hb hby d10_23) (pc' := 26) rfl rfl (z := (2 : Int32)) (by decide) (ls' := #[.val (.ref ka1), .val (.ref la), .val (.int (2 : Int32))]) rfl ?_
  refine W_goto B (hb hby d10_26) (by decide) (pc' := 7) (by decide) ?_
  refine W_iloadN B (hb hby d10_7) (pc' := 8) rfl rfl ?_
  refine W_aloadN B (hb hby d10_8) (pc' := 9) rfl rfl rfl ?_
  refine W_arraylength B (hb hby d10_9) (pc' := 10) rfl (j := 0) rfl (z := (3 : Int32)) rfl ?_
  refine W_icmpN B (hb hby d10_10) (pc' := 13) rfl (by decide) ?_
  refine W_aloadN B (hb hby d10_13) (pc' := 14) rfl rfl rfl ?_
  refine W_iloadN B (hb hby d10_14) (pc' := 15) rfl rfl ?_
  refine W_aloadN B (hb hby d10_15) (pc' := 16) rfl rfl rfl ?_
  refine W_iloadN B (hb hby d10_16) (pc' := 17) rfl rfl ?_
  refine W_lam B (v := (2 : Int32)) hy0 (own_target l _) hown (ow hw (i := 84) rfl) (ow hw (i := 85) rfl) (ow hw (i := 86) rfl) (ow hw (i := 88) rfl) (ow hw (i := 87) rfl) (ow hw (i := 3) rfl) (by decide +kernel) (by decide +kernel) (by decide) own_fwd own_f0 own_f1 own_f4 (lenOf pd_1 rfl) (lenOf pd_1 rfl) (hb hby d10_17) (pc' := 22) rfl (by rw [hml]; rfl) ⟨oLe rfl, oLe rfl, oLe rfl, oLe rfl⟩ ?_
  intro T B
  refine W_iastore B (hb hby d10_22) (pc' := 23) rfl (i := 0) rfl (by decide) (oLt rfl) (ds' := ((ka1, oA .int [o0, (.int (1 : Int32)), (.int (2 : Int32))]) :: ds)) rfl ?_
  intro T B
  refine W_iinc B (hb hby d10_23) (pc' := 26) rfl rfl (z := (3 : Int32)) (by decide) (ls' := #[.val (.ref ka1), .val (.ref la), .val (.int (3 : Int32))]) rfl ?_
  refine W_goto B (hb hby d10_26) (by decide) (pc' := 7) (by decide) ?_
  refine W_iloadN B (hb hby d10_7) (pc' := 8) rfl rfl ?_
  refine W_aloadN B (hb hby d10_8) (pc' := 9) rfl rfl rfl ?_
  refine W_arraylength B (hb hby d10_9) (pc' := 10) rfl (j := 0) rfl (z := (3 : Int32)) rfl ?_
  refine W_icmpY B (hb hby d10_10) (by decide) (pc' := 29) (by decide) (by decide) ?_
  refine W_retV B hret (hb hby d10_29) (by decide) ?_
  exact ⟨rfl, rfl⟩
theorem pd_4 : parseMethodDescriptor "([ILjava/util/function/IntUnaryOperator;)V" = some ⟨[(.array .int), (.object "java/util/function/IntUnaryOperator")], none⟩ := by decide +kernel
theorem d2_71 : decode prog_45_method_2_code 71 = .ok (.aload_n 0, 1) := by decide +kernel
theorem d2_72 : decode prog_45_method_2_code 72 = .ok (.aload_n 0, 1) := by decide +kernel
theorem d2_73 : decode prog_45_method_2_code 73 = .ok (.aload_n 0, 1) := by decide +kernel
theorem d2_74 : decode prog_45_method_2_code 74 = .ok (.getfield 50, 3) := by decide +kernel
theorem d2_77 : decode prog_45_method_2_code 77 = .ok (.invokevirtual 63, 3) := by decide +kernel
theorem d13_0 : decode prog_45_method_21_code 0 = .ok (.aload_n 0, 1) := by decide +kernel
theorem d13_1 : decode prog_45_method_21_code 1 = .ok (.getfield 18, 3) := by decide +kernel
theorem d13_4 : decode prog_45_method_21_code 4 = .ok (.invokeinterface 138 1, 5) := by decide +kernel
theorem d14_0 : decode jdk_38_method_55_code 0 = .ok (.new 267, 3) := by decide +kernel
abbrev fk14 : oFK := ("java/util/ArrayList$Itr", "this$0", "Ljava/util/ArrayList;")
abbrev fk15 : oFK := ("java/util/ArrayList$Itr", "lastRet", "I")
abbrev fk16 : oFK := ("java/util/ArrayList$Itr", "expectedModCount", "I")
abbrev fk17 : oFK := ("java/util/ArrayList$Itr", "cursor", "I")
theorem d14_3 : decode jdk_38_method_55_code 3 = .ok (.dup, 1) := by decide +kernel
theorem d14_4 : decode jdk_38_method_55_code 4 = .ok (.aload_n 0, 1) := by decide +kernel
theorem d14_5 : decode jdk_38_method_55_code 5 = .ok (.invokespecial 269, 3) := by decide +kernel
abbrev cn2 : String := "java/util/ArrayList$Itr"
theorem d15_0 : decode jdk_49_method_1_code 0 = .ok (.aload_n 0, 1) := by decide +kernel
theorem d15_1 : decode jdk_49_method_1_code 1 = .ok (.aload_n 1, 1) := by decide +kernel
theorem d15_2 : decode jdk_49_method_1_code 2 = .ok (.putfield 1, 3) := by decide +kernel
theorem d15_5 : decode jdk_49_method_1_code 5 = .ok (.aload_n 0, 1) := by decide +kernel
theorem d15_6 : decode jdk_49_method_1_code 6 = .ok (.invokespecial 7, 3) := by decide +kernel
theorem d15_9 : decode jdk_49_method_1_code 9 = .ok (.aload_n 0, 1) := by decide +kernel
theorem d15_10 : decode jdk_49_method_1_code 10 = .ok (.iconst (-1), 1) := by decide +kernel
theorem d15_11 : decode jdk_49_method_1_code 11 = .ok (.putfield 13, 3) := by decide +kernel
theorem d15_14 : decode jdk_49_method_1_code 14 = .ok (.aload_n 0, 1) := by decide +kernel
theorem d15_15 : decode jdk_49_method_1_code 15 = .ok (.aload_n 0, 1) := by decide +kernel
theorem d15_16 : decode jdk_49_method_1_code 16 = .ok (.getfield 1, 3) := by decide +kernel
theorem d15_19 : decode jdk_49_method_1_code 19 = .ok (.getfield 17, 3) := by decide +kernel
theorem d15_22 : decode jdk_49_method_1_code 22 = .ok (.putfield 22, 3) := by decide +kernel
theorem d15_25 : decode jdk_49_method_1_code 25 = .ok (.return_, 1) := by decide +kernel
theorem ef_rm_a9 (m : MethodId) (x0 : Addr) (x1 : Addr) : entryFrame m #[(.ref x0), (.ref x1)] 2 = mkF m 0 #[.val (.ref x0), .val (.ref x1)] [] := by first | (simp [entryFrame, mkF, argsToLocals, Value.category]; done) | rfl
theorem pn_6 : plainName "java/util/ArrayList$Itr" = true := by first | (simp [plainName, overriddenIn]; done) | decide +kernel
set_option maxRecDepth 65536 in
set_option maxHeartbeats 40000000 in
theorem rm_a9 (l : Launch) (Z : State) (a0 : Array Value) (hw : ∀ d ∈ tables_1, d.before a0 Z = true) (h0 : Heap) {lo : Nat} (ka1 : Addr) (ka2 : Addr) (e1 : Addr × oD) (e2 : Addr × oD) (de : Addr) (ds : oDs) :
    oMet l Z h0 lo (⟨"java/util/ArrayList$Itr", "<init>", "(Ljava/util/ArrayList;)V"⟩ : MethodName) jdk_49_method_1_code 2 none [] ({ frames := 1, cells := 0, slots := 0, locals := 12 } : Room) #[(.ref ka1), (.ref ka2)] ((ka1, oO cn2 [(fk14, .null), (fk15, (.int (0 : Int32))), (fk16, (.int (0 : Int32))), (fk17, (.int (0 : Int32)))]) :: e1 :: e2 :: (ka2, oO cn1 [(fk11, (.int (0 : Int32))), (fk12, (.ref de)), (fk13, (.int (0 : Int32)))]) :: ds) (fun (v : Option Value) (d : oDs) => (v = none ∧ ((ka1, oO cn2 [(fk14, (.ref ka2)), (fk15, (.int (-1 : Int32))), (fk16, (.int (0 : Int32))), (fk17, (.int (0 : Int32)))]) :: e1 :: e2 :: (ka2, oO cn1 [(fk11, (.int (0 : Int32))), (fk12, (.ref de)), (fk13, (.int (0 : Int32)))]) :: ds) = d)) := by
  refine oMet.of_body (plainFor_of_name pn_6) ?_
  intro p e s m below meth c T B hby hml hown hnm hret
  refine W_entry (ef_rm_a9 m ka1 ka2) ?_
  refine W_aloadN B (hb hby d15_0) (pc' := 1) rfl rfl rfl ?_
  refine W_aloadN B (hb hby d15_1) (pc' := 2) rfl rfl rfl ?_
  refine W_putfield B hown (host := "") (Or.inl (ow hw (i := 110) rfl)) Via.refl (hb hby d15_2) (pc' := 5) rfl (Or.inr ⟨(ow hw (i := 111) rfl), rfl, hnm⟩) (ow hw (i := 104) rfl) (ty := (.object "java/util/ArrayList")) (by decide) rfl rfl (j := 0) rfl (q := 0) rfl (ds' := ((ka1, oO cn2 [(fk14, (.ref ka2)), (fk15, (.int (0 : Int32))), (fk16, (.int (0 : Int32))), (fk17, (.int (0 : Int32)))]) :: e1 :: e2 :: (ka2, oO cn1 [(fk11, (.int (0 : Int32))), (fk12, (.ref de)), (fk13, (.int (0 : Int32)))]) :: ds)) rfl ?_
  intro T B
  refine W_aloadN B (hb hby d15_5) (pc' := 6) rfl rfl rfl ?_
  refine W_initO B hown (ow hw (i := 112) rfl) (ow hw (i := 20) rfl) (ow hw (i := 21) rfl) (hb hby d15_6) (pc' := 9) rfl (by rw [hml]; rfl) (W := 0) (oLe rfl) (by decide) ?_
  intro T B
  refine W_aloadN B (hb hby d15_9) (pc' := 10) rfl rfl rfl ?_
  refine W_iconst B (hb hby d15_10) (pc' := 11) rfl (z := (-1 : Int32)) (by decide) ?_
  refine W_putfield B hown (host := "") (Or.inl (ow hw (i := 113) rfl)) Via.refl (hb hby d15_11) (pc' := 14) rfl (Or.inl (ow hw (i := 114) rfl)) (ow hw (i := 104) rfl) (ty := .int) (by decide) rfl rfl (j := 0) rfl (q := 1) rfl (ds' := ((ka1, oO cn2 [(fk14, (.ref ka2)), (fk15, (.int (-1 : Int32))), (fk16, (.int (0 : Int32))), (fk17, (.int (0 : Int32)))]) :: e1 :: e2 :: (ka2, oO cn1 [(fk11, (.int (0 : Int32))), (fk12, (.ref de)), (fk13, (.int (0 : Int32)))]) :: ds)) rfl ?_
  intro T B
  refine W_aloadN B (hb hby d15_14) (pc' := 15) rfl rfl rfl ?_
  refine W_aloadN B (hb hby d15_15) (pc' := 16) rfl rfl rfl ?_
  refine W_getfield B hown (host := "") (Or.inl (ow hw (i := 110) rfl)) Via.refl (hb hby d15_16) (pc' := 19) rfl (j := 0) rfl (q := 0) rfl ?_
  intro T B
  refine W_getfield B hown (host := "") (Or.inl (ow hw (i := 115) rfl)) (Via.of (ow hw (i := 116) rfl)) (hb hby d15_19) (pc' := 22) rfl (j := 3) rfl (q := 0) rfl ?_
  intro T B
  refine W_putfield B hown (host := "") (Or.inl (ow hw (i := 117) rfl)) Via.refl (hb hby d15_22) (pc' := 25) rfl (Or.inl (ow hw (i := 118) rfl)) (ow hw (i := 104) rfl) (ty := .int) (by decide) rfl rfl (j := 0) rfl (q := 2) rfl (ds' := ((ka1, oO cn2 [(fk14, (.ref ka2)), (fk15, (.int (-1 : Int32))), (fk16, (.int (0 : Int32))), (fk17, (.int (0 : Int32)))]) :: e1 :: e2 :: (ka2, oO cn1 [(fk11, (.int (0 : Int32))), (fk12, (.ref de)), (fk13, (.int (0 : Int32)))]) :: ds)) rfl ?_
  intro T B
  refine W_retV B hret (hb hby d15_25) (by decide) ?_
  exact ⟨rfl, rfl⟩
theorem pd_5 : parseMethodDescriptor "(Ljava/util/ArrayList;)V" = some ⟨[(.object "java/util/ArrayList")], none⟩ := by decide +kernel
theorem d14_8 : decode jdk_38_method_55_code 8 = .ok (.areturn, 1) := by decide +kernel
theorem ef_rm_a10 (m : MethodId) (x0 : Addr) : entryFrame m #[(.ref x0)] 1 = mkF m 0 #[.val (.ref x0)] [] := by first | (simp [entryFrame, mkF, argsToLocals, Value.category]; done) | rfl
set_option maxRecDepth 65536 in
set_option maxHeartbeats 40000000 in
theorem rm_a10 (l : Launch) (Z : State) (a0 : Array Value) (hw : ∀ d ∈ tables_1, d.before a0 Z = true) (h0 : Heap) {lo : Nat} (ka1 : Addr) (e0 : Addr × oD) (e1 : Addr × oD) (de : Addr) (ds : oDs) :
    oMet l Z h0 lo (⟨"java/util/ArrayList", "iterator", "()Ljava/util/Iterator;"⟩ : MethodName) jdk_38_method_55_code 1 (some (.object "java/util/Iterator")) [] ({ frames := 2, cells := 1, slots := 4, locals := 26 } : Room) #[(.ref ka1)] (e0 :: e1 :: (ka1, oO cn1 [(fk11, (.int (0 : Int32))), (fk12, (.ref de)), (fk13, (.int (0 : Int32)))]) :: ds) (fun (v : Option Value) (d : oDs) => (∃ (b15 : Addr), v = some (.ref b15) ∧ ((b15, oO cn2 [(fk14, (.ref ka1)), (fk15, (.int (-1 : Int32))), (fk16, (.int (0 : Int32))), (fk17, (.int (0 : Int32)))]) :: e0 :: e1 :: (ka1, oO cn1 [(fk11, (.int (0 : Int32))), (fk12, (.ref de)), (fk13, (.int (0 : Int32)))]) :: ds) = d)) := by
  refine oMet.of_body (plainFor_of_name pn_2) ?_
  intro p e s m below meth c T B hby hml hown hnm hret
  refine W_entry (ef_rm_a10 m ka1) ?_
  refine W_new B hown (ow hw (i := 103) rfl) (ow hw (i := 104) rfl) (ow hw (i := 105) rfl) (hb hby d14_0) (pc' := 3) rfl (by decide) (cells' := 1) rfl (slots' := 4) rfl (fs := [(fk14, .null), (fk15, (.int (0 : Int32))), (fk16, (.int (0 : Int32))), (fk17, (.int (0 : Int32)))]) (oAll_cons ⟨Or.inr (ow hw (i := 111) rfl), (.object "java/util/ArrayList"), by decide, rfl⟩ (oAll_cons ⟨Or.inl (ow hw (i := 114) rfl), .int, by decide, rfl⟩ (oAll_cons ⟨Or.inl (ow hw (i := 118) rfl), .int, by decide, rfl⟩ (oAll_cons ⟨Or.inl (ow hw (i := 129) rfl), .int, by decide, rfl⟩ oAll_nil)))) (by decide) ?_
  intro T b15 B
  refine W_dup B (hb hby d14_3) (pc' := 4) rfl rfl ?_
  refine W_aloadN B (hb hby d14_4) (pc' := 5) rfl rfl rfl ?_
  refine W_init B (y := (⟨"java/util/ArrayList$Itr", "<init>", "(Ljava/util/ArrayList;)V"⟩ : MethodName)) hown rfl (ow hw (i := 106) rfl) (ow hw (i := 107) rfl) (ow hw (i := 105) rfl) (ow hw (i := 109) rfl) (by decide) (a := b15) (rm_a9 l Z a0 hw h0 b15 ka1 _ _ de _ ) (lenOf pd_5 rfl) (hb hby d14_5) (pc' := 8) rfl (argsL := [(.ref ka1)]) (rest := [(.ref b15)]) rfl (by rw [hml]; rfl) (W := 1) (oLe rfl) (by decide) (cells' := 1) rfl (slots' := 4) rfl ?_
  intro T v_ d_ q_ B
  obtain ⟨rfl, rfl⟩ := q_
  show oWin p e below Z h0 _ _ (T.setTop (mkF m 8 #[.val (.ref ka1)] [(.ref b15)]))
  refine W_retA B hret rfl rfl (hb hby d14_8) (by decide) ?_
  exact ⟨b15, rfl, rfl⟩
theorem pd_6 : parseMethodDescriptor "()Ljava/util/Iterator;" = some ⟨[], some (.object "java/util/Iterator")⟩ := by decide +kernel
theorem d13_9 : decode prog_45_method_21_code 9 = .ok (.astore_n 2, 1) := by decide +kernel
theorem d13_10 : decode prog_45_method_21_code 10 = .ok (.aload_n 2, 1) := by decide +kernel
theorem d13_11 : decode prog_45_method_21_code 11 = .ok (.invokeinterface 144 1, 5) := by decide +kernel
theorem d16_0 : decode jdk_49_method_2_code 0 = .ok (.aload_n 0, 1) := by decide +kernel
theorem d16_1 : decode jdk_49_method_2_code 1 = .ok (.getfield 25, 3) := by decide +kernel
theorem d16_4 : decode jdk_49_method_2_code 4 = .ok (.aload_n 0, 1) := by decide +kernel
theorem d16_5 : decode jdk_49_method_2_code 5 = .ok (.getfield 1, 3) := by decide +kernel
theorem d16_8 : decode jdk_49_method_2_code 8 = .ok (.getfield 28, 3) := by decide +kernel
theorem d16_11 : decode jdk_49_method_2_code 11 = .ok (.if_icmp .eq 7, 3) := by decide +kernel
theorem d16_18 : decode jdk_49_method_2_code 18 = .ok (.iconst 0, 1) := by decide +kernel
theorem d16_19 : decode jdk_49_method_2_code 19 = .ok (.ireturn, 1) := by decide +kernel
theorem ef_rm_a11 (m : MethodId) (x0 : Addr) : entryFrame m #[(.ref x0)] 1 = mkF m 0 #[.val (.ref x0)] [] := by first | (simp [entryFrame, mkF, argsToLocals, Value.category]; done) | rfl
set_option maxRecDepth 65536 in
set_option maxHeartbeats 40000000 in
theorem rm_a11 (l : Launch) (Z : State) (a0 : Array Value) (hw : ∀ d ∈ tables_1, d.before a0 Z = true) (h0 : Heap) {lo : Nat} (ka1 : Addr) (ka2 : Addr) (e1 : Addr × oD) (e2 : Addr × oD) (de : Addr) (ds : oDs) :
    oMet l Z h0 lo (⟨"java/util/ArrayList$Itr", "hasNext", "()Z"⟩ : MethodName) jdk_49_method_2_code 1 (some .boolean) [] ({ frames := 0, cells := 0, slots := 0, locals := 0 } : Room) #[(.ref ka1)] ((ka1, oO cn2 [(fk14, (.ref ka2)), (fk15, (.int (-1 : Int32))), (fk16, (.int (0 : Int32))), (fk17, (.int (0 : Int32)))]) :: e1 :: e2 :: (ka2, oO cn1 [(fk11, (.int (0 : Int32))), (fk12, (.ref de)), (fk13, (.int (0 : Int32)))]) :: ds) (fun (v : Option Value) (d : oDs) => (v = some (.int (0 : Int32)) ∧ ((ka1, oO cn2 [(fk14, (.ref ka2)), (fk15, (.int (-1 : Int32))), (fk16, (.int (0 : Int32))), (fk17, (.int (0 : Int32)))]) :: e1 :: e2 :: (ka2, oO cn1 [(fk11, (.int (0 : Int32))), (fk12, (.ref de)), (fk13, (.int (0 : Int32)))]) :: ds) = d)) := by
  refine oMet.of_body (plainFor_of_name pn_6) ?_
  intro p e s m below meth c T B hby hml hown hnm hret
  refine W_entry (ef_rm_a11 m ka1) ?_
  refine W_aloadN B (hb hby d16_0) (pc' := 1) rfl rfl rfl ?_
  refine W_getfield B hown (host := "") (Or.inl (ow hw (i := 128) rfl)) Via.refl (hb hby d16_1) (pc' := 4) rfl (j := 0) rfl (q := 3) rfl ?_
  intro T B
  refine W_aloadN B (hb hby d16_4) (pc' := 5) rfl rfl rfl ?_
  refine W_getfield B hown (host := "") (Or.inl (ow hw (i := 110) rfl)) Via.refl (hb hby d16_5) (pc' := 8) rfl (j := 0) rfl (q := 0) rfl ?_
  intro T B
  refine W_getfield B hown (Or.inr (ow hw (i := 130) rfl)) Via.refl (hb hby d16_8) (pc' := 11) rfl (j := 3) rfl (q := 2) rfl ?_
  intro T B
  refine W_icmpY B (hb hby d16_11) (by decide) (pc' := 18) (by decide) (by decide) ?_
  refine W_iconst B (hb hby d16_18) (pc' := 19) rfl (z := (0 : Int32)) (by decide) ?_
  refine W_retN B hret (by simp) (hb hby d16_19) (by decide) ?_
  exact ⟨rfl, rfl⟩
theorem pd_7 : parseMethodDescriptor "()Z" = some ⟨[], some .boolean⟩ := by decide +kernel
theorem d13_16 : decode prog_45_method_21_code 16 = .ok (.ifCond .eq 29, 3) := by decide +kernel
theorem d13_45 : decode prog_45_method_21_code 45 = .ok (.aload_n 0, 1) := by decide +kernel
theorem d13_46 : decode prog_45_method_21_code 46 = .ok (.getfield 85, 3) := by decide +kernel
theorem d13_49 : decode prog_45_method_21_code 49 = .ok (.ifnull 21, 3) := by decide +kernel
theorem d13_70 : decode prog_45_method_21_code 70 = .ok (.aload_n 0, 1) := by decide +kernel
theorem d13_71 : decode prog_45_method_21_code 71 = .ok (.getfield 85, 3) := by decide +kernel
theorem d13_74 : decode prog_45_method_21_code 74 = .ok (.ifnull 18, 3) := by decide +kernel
theorem d13_92 : decode prog_45_method_21_code 92 = .ok (.aload_n 0, 1) := by decide +kernel
theorem d13_93 : decode prog_45_method_21_code 93 = .ok (.getfield 101, 3) := by decide +kernel
theorem d13_96 : decode prog_45_method_21_code 96 = .ok (.ifCond .eq 18, 3) := by decide +kernel
theorem d13_114 : decode prog_45_method_21_code 114 = .ok (.new 67, 3) := by decide +kernel
abbrev fk18 : oFK := ("com/example/tanglemark/tanglemark/datalog/Relation$Index", "columns", "[I")
abbrev fk19 : oFK := ("com/example/tanglemark/tanglemark/datalog/Relation$Chains", "heads", "[I")
abbrev fk20 : oFK := ("com/example/tanglemark/tanglemark/datalog/Relation$Chains", "next", "[I")
theorem d13_117 : decode prog_45_method_21_code 117 = .ok (.dup, 1) := by decide +kernel
theorem d13_118 : decode prog_45_method_21_code 118 = .ok (.aload_n 1, 1) := by decide +kernel
theorem d13_119 : decode prog_45_method_21_code 119 = .ok (.invokevirtual 233, 3) := by decide +kernel
theorem d13_122 : decode prog_45_method_21_code 122 = .ok (.checkcast 234, 3) := by decide +kernel
theorem d13_125 : decode prog_45_method_21_code 125 = .ok (.invokespecial 244, 3) := by decide +kernel
abbrev cn3 : String := "com/example/tanglemark/tanglemark/datalog/Relation$Chains"
theorem d17_0 : decode prog_46_method_1_code 0 = .ok (.aload_n 0, 1) := by decide +kernel
theorem d17_1 : decode prog_46_method_1_code 1 = .ok (.aload_n 1, 1) := by decide +kernel
theorem d17_2 : decode prog_46_method_1_code 2 = .ok (.invokespecial 1, 3) := by decide +kernel
theorem d18_0 : decode prog_48_method_1_code 0 = .ok (.aload_n 0, 1) := by decide +kernel
theorem d18_1 : decode prog_48_method_1_code 1 = .ok (.invokespecial 1, 3) := by decide +kernel
theorem d18_4 : decode prog_48_method_1_code 4 = .ok (.aload_n 0, 1) := by decide +kernel
theorem d18_5 : decode prog_48_method_1_code 5 = .ok (.aload_n 1, 1) := by decide +kernel
theorem d18_6 : decode prog_48_method_1_code 6 = .ok (.putfield 7, 3) := by decide +kernel
theorem d18_9 : decode prog_48_method_1_code 9 = .ok (.return_, 1) := by decide +kernel
theorem ef_rm_a12 (m : MethodId) (x0 : Addr) (x1 : Addr) : entryFrame m #[(.ref x0), (.ref x1)] 2 = mkF m 0 #[.val (.ref x0), .val (.ref x1)] [] := by first | (simp [entryFrame, mkF, argsToLocals, Value.category]; done) | rfl
theorem pn_7 : plainName "com/example/tanglemark/tanglemark/datalog/Relation$Index" = true := by first | (simp [plainName, overriddenIn]; done) | decide +kernel
set_option maxRecDepth 65536 in
set_option maxHeartbeats 40000000 in
theorem rm_a12 (l : Launch) (Z : State) (a0 : Array Value) (hw : ∀ d ∈ tables_1, d.before a0 Z = true) (h0 : Heap) {lo : Nat} (ka1 : Addr) (ka2 : Addr) (e0 : Addr × oD) (ds : oDs) :
    oMet l Z h0 lo (⟨"com/example/tanglemark/tanglemark/datalog/Relation$Index", "<init>", "([I)V"⟩ : MethodName) prog_48_method_1_code 2 none [] ({ frames := 1, cells := 0, slots := 0, locals := 12 } : Room) #[(.ref ka1), (.ref ka2)] (e0 :: (ka1, oO cn3 [(fk18, .null), (fk19, .null), (fk20, .null)]) :: ds) (fun (v : Option Value) (d : oDs) => (v = none ∧ (e0 :: (ka1, oO cn3 [(fk18, (.ref ka2)), (fk19, .null), (fk20, .null)]) :: ds) = d)) := by
  refine oMet.of_body (plainFor_of_name pn_7) ?_
  intro p e s m below meth c T B hby hml hown hnm hret
  refine W_entry (ef_rm_a12 m ka1 ka2) ?_
  refine W_aloadN B (hb hby d18_0) (pc' := 1) rfl rfl rfl ?_
  refine W_initO B hown (ow hw (i := 156) rfl) (ow hw (i := 20) rfl) (ow hw (i := 21) rfl) (hb hby d18_1) (pc' := 4) rfl (by rw [hml]; rfl) (W := 0) (oLe rfl) (by decide) ?_
  intro T B
  refine W_aloadN B (hb hby d18_4) (pc' := 5) rfl rfl rfl ?_
  refine W_aloadN B (hb hby d18_5) (pc' := 6) rfl rfl rfl ?_
  refine W_putfield B hown (host := "") (Or.inl (ow hw (i := 157) rfl)) Via.refl (hb hby d18_6) (pc' := 9) rfl (Or.inr ⟨(ow hw (i := 158) rfl), rfl, hnm⟩) (ow hw (i := 137) rfl) (ty := (.array .int)) (by decide) rfl rfl (j := 1) rfl (q := 0) rfl (ds' := (e0 :: (ka1, oO cn3 [(fk18, (.ref ka2)), (fk19, .null), (fk20, .null)]) :: ds)) rfl ?_
  intro T B
  refine W_retV B hret (hb hby d18_9) (by decide) ?_
  exact ⟨rfl, rfl⟩
theorem pd_8 : parseMethodDescriptor "([I)V" = some ⟨[(.array .int)], none⟩ := by decide +kernel
theorem d17_5 : decode prog_46_method_1_code 5 = .ok (.aload_n 0, 1) := by decide +kernel
theorem d17_6 : decode prog_46_method_1_code 6 = .ok (.bipush 16, 2) := by decide +kernel
theorem d17_8 : decode prog_46_method_1_code 8 = .ok (.newarray .int, 2) := by decide +kernel
theorem d17_10 : decode prog_46_method_1_code 10 = .ok (.putfield 7, 3) := by decide +kernel
theorem d17_13 : decode prog_46_method_1_code 13 = .ok (.aload_n 0, 1) := by decide +kernel
theorem d17_14 : decode prog_46_method_1_code 14 = .ok (.getfield 7, 3) := by decide +kernel
theorem d17_17 : decode prog_46_method_1_code 17 = .ok (.iconst (-1), 1) := by decide +kernel
theorem d17_18 : decode prog_46_method_1_code 18 = .ok (.invokestatic 13, 3) := by decide +kernel
theorem d19_0 : decode jdk_65_method_103_code 0 = .ok (.iconst 0, 1) := by decide +kernel
theorem d19_1 : decode jdk_65_method_103_code 1 = .ok (.istore_n 2, 1) := by decide +kernel
theorem d19_2 : decode jdk_65_method_103_code 2 = .ok (.aload_n 0, 1) := by decide +kernel
theorem d19_3 : decode jdk_65_method_103_code 3 = .ok (.arraylength, 1) := by decide +kernel
theorem d19_4 : decode jdk_65_method_103_code 4 = .ok (.istore_n 3, 1) := by decide +kernel
theorem d19_5 : decode jdk_65_method_103_code 5 = .ok (.iload_n 2, 1) := by decide +kernel
theorem d19_6 : decode jdk_65_method_103_code 6 = .ok (.iload_n 3, 1) := by decide +kernel
theorem d19_7 : decode jdk_65_method_103_code 7 = .ok (.if_icmp .ge 13, 3) := by decide +kernel
theorem d19_10 : decode jdk_65_method_103_code 10 = .ok (.aload_n 0, 1) := by decide +kernel
theorem d19_11 : decode jdk_65_method_103_code 11 = .ok (.iload_n 2, 1) := by decide +kernel
theorem d19_12 : decode jdk_65_method_103_code 12 = .ok (.iload_n 1, 1) := by decide +kernel
theorem d19_13 : decode jdk_65_method_103_code 13 = .ok (.iastore, 1) := by decide +kernel
theorem d19_14 : decode jdk_65_method_103_code 14 = .ok (.iinc 2 1, 3) := by decide +kernel
theorem d19_17 : decode jdk_65_method_103_code 17 = .ok (.goto (-12), 3) := by decide +kernel
theorem d19_20 : decode jdk_65_method_103_code 20 = .ok (.return_, 1) := by decide +kernel
theorem ef_rm_a13 (m : MethodId) (x0 : Addr) : entryFrame m #[(.ref x0), (.int (-1 : Int32))] 4 = mkF m 0 #[.val (.ref x0), .val (.int (-1 : Int32)), .unset, .unset] [] := by first | (simp [entryFrame, mkF, argsToLocals, Value.category]; done) | rfl
set_option maxRecDepth 65536 in
set_option maxHeartbeats 40000000 in
theorem rm_a13 (l : Launch) (Z : State) (a0 : Array Value) (hw : ∀ d ∈ tables_1, d.before a0 Z = true) (h0 : Heap) {lo : Nat} (ka1 : Addr) (ds : oDs) :
    oMet l Z h0 lo (⟨"java/util/Arrays", "fill", "([II)V"⟩ : MethodName) jdk_65_method_103_code 4 none [] ({ frames := 0, cells := 0, slots := 0, locals := 0 } : Room) #[(.ref ka1), (.int (-1 : Int32))] ((ka1, oA .int [o0, o0, o0, o0, o0, o0, o0, o0, o0, o0, o0, o0, o0, o0, o0, o0]) :: ds) (fun (v : Option Value) (d : oDs) => (v = none ∧ ((ka1, oA .int [(.int (-1 : Int32)), (.int (-1 : Int32)), (.int (-1 : Int32)), (.int (-1 : Int32)), (.int (-1 : Int32)), (.int (-1 : Int32)), (.int (-1 : Int32)), (.int (-1 : Int32)), (.int (-1 : Int32)), (.int (-1 : Int32)), (.int (-1 : Int32)), (.int (-1 : Int32)), (.int (-1 : Int32)), (.int (-1 : Int32)), (.int (-1 : Int32)), (.int (-1 : Int32))]) :: ds) = d)) := by
  refine oMet.of_body (plainFor_of_name pn_5) ?_
  intro p e s m below meth c T B hby hml hown hnm hret
  refine W_entry (ef_rm_a13 m ka1) ?_
  refine W_iconst B (hb hby d19_0) (pc' := 1) rfl (z := (0 : Int32)) (by decide) ?_
  refine W_istoreN B (hb hby d19_1) (pc' := 2) rfl (v := (0 : Int32)) rfl (ls' := #[.val (.ref ka1), .val (.int (-1 : Int32)), .val (.int (0 : Int32)), .unset]) rfl ?_
  refine W_aloadN B (hb hby d19_2) (pc' := 3) rfl rfl rfl ?_
  refine W_arraylength B (hb hby d19_3) (pc' := 4) rfl (j := 0) rfl (z := (16 : Int32)) rfl ?_
  refine W_istoreN B (hb hby d19_4) (pc' := 5) rfl (v := (16 : Int32)) rfl (ls' := #[.val (.ref ka1), .val (.int (-1 : Int32)), .val (.int (0 : Int32)), .val (.int (16 : Int32))]) rfl ?_
  refine W_iloadN B (hb hby d19_5) (pc' := 6) rfl rfl ?_
  refine W_iloadN B (hb hby d19_6) (pc' := 7) rfl rfl ?_
  refine W_icmpN B (hb hby d19_7) (pc' := 10) rfl (by decide) ?_
  refine W_aloadN B (hb hby d19_10) (pc' := 11) rfl rfl rfl ?_
  refine W_iloadN B (hb hby d19_11) (pc' := 12) rfl rfl ?_
  refine W_iloadN B (hb hby d19_12) (pc' := 13) rfl rfl ?_
  refine W_iastore B (hb hby d19_13) (pc' := 14) rfl (i := 0) rfl (by decide) (oLt rfl) (ds' := ((ka1, oA .int [(.int (-1 : Int32)), o0, o0, o0, o0, o0, o0, o0, o0, o0, o0, o0, o0, o0, o0, o0]) :: ds)) rfl ?_
  intro T B
  refine W_iinc B (hb hby d19_14) (pc' := 17) rfl rfl (z := (1 : Int32)) (by decide) (ls' := #[.val (.ref ka1), .val (.int (-1 : Int32)), .val (.int (1 : Int32)), .val (.int (16 : Int32))]) rfl ?_
  refine W_goto B (hb hby d19_17) (by decide) (pc' := 5) (by decide) ?_
  refine W_iloadN B (hb hby d19_5) (pc' := 6) rfl rfl ?_
  refine W_iloadN B (hb hby d19_6) (pc' := 7) rfl rfl ?_
  refine W_icmpN B (hb hby d19_7) (pc' := 10) rfl (by decide) ?_
  refine W_aloadN B (hb hby d19_10) (pc' := 11) rfl rfl rfl ?_
  refine W_iloadN B (hb hby d19_11) (pc' := 12) rfl rfl ?_
  refine W_iloadN B (hb hby d19_12) (pc' := 13) rfl rfl ?_
  refine W_iastore B (hb hby d19_13) (pc' := 14) rfl (i := 0) rfl (by decide) (oLt rfl) (ds' := ((ka1, oA .int [(.int (-1 : Int32)), (.int (-1 : Int32)), o0, o0, o0, o0, o0, o0, o0, o0, o0, o0, o0, o0, o0, o0]) :: ds)) rfl ?_
  intro T B
  refine W_iinc B (hb hby d19_14) (pc' := 17) rfl rfl (z := (2 : Int32)) (by decide) (ls' := #[.val (.ref ka1), .val (.int (-1 : Int32)), .val (.int (2 : Int32)), .val (.int (16 : Int32))]) rfl ?_
  refine W_goto B (hb hby d19_17) (by decide) (pc' := 5) (by decide) ?_
  refine W_iloadN B (hb hby d19_5) (pc' := 6) rfl rfl ?_
  refine W_iloadN B (hb hby d19_6) (pc' := 7) rfl rfl ?_
  refine W_icmpN B (hb hby d19_7) (pc' := 10) rfl (by decide) ?_
  refine W_aloadN B (hb hby d19_10) (pc' := 11) rfl rfl rfl ?_
  refine W_iloadN B (hb hby d19_11) (pc' := 12) rfl rfl ?_
  refine W_iloadN B (hb hby d19_12) (pc' := 13) rfl rfl ?_
  refine W_iastore B (hb hby d19_13) (pc' := 14) rfl (i := 0) rfl (by decide) (oLt rfl) (ds' := ((ka1, oA .int [(.int (-1 : Int32)), (.int (-1 : Int32)), (.int (-1 : Int32)), o0, o0, o0, o0, o0, o0, o0, o0, o0, o0, o0, o0, o0]) :: ds)) rfl ?_
  intro T B
  refine W_iinc B (hb hby d19_14) (pc' := 17) rfl rfl (z := (3 : Int32)) (by decide) (ls' := #[.val (.ref ka1), .val (.int (-1 : Int32)), .val (.int (3 : Int32)), .val (.int (16 : Int32))]) rfl ?_
  refine W_goto B (hb hby d19_17) (by decide) (pc' := 5) (by decide) ?_
  refine W_iloadN B (hb hby d19_5) (pc' := 6) rfl rfl ?_
  refine W_iloadN B (hb hby d19_6) (pc' := 7) rfl rfl ?_
  refine W_icmpN B (hb hby d19_7) (pc' := 10) rfl (by decide) ?_
  refine W_aloadN B (hb hby d19_10) (pc' := 11) rfl rfl rfl ?_
  refine W_iloadN B (hb hby d19_11) (pc' := 12) rfl rfl ?_
  refine W_iloadN B (hb hby d19_12) (pc' := 13) rfl rfl ?_
  refine W_iastore B (hb hby d19_13) (pc' := 14) rfl (i := 0) rfl (by decide) (oLt rfl) (ds' := ((ka1, oA .int [(.int (-1 : Int32)), (.int (-1 : Int32)), (.int (-1 : Int32)), (.int (-1 : Int32)), o0, o0, o0, o0, o0, o0, o0, o0, o0, o0, o0, o0]) :: ds)) rfl ?_
  intro T B
  refine W_iinc B (hb hby d19_14) (pc' := 17) rfl rfl (z := (4 : Int32)) (by decide) (ls' := #[.val (.ref ka1), .val (.int (-1 : Int32)), .val (.int (4 : Int32)), .val (.int (16 : Int32))]) rfl ?_
  refine W_goto B (hb hby d19_17) (by decide) (pc' := 5) (by decide) ?_
  refine W_iloadN B (hb hby d19_5) (pc' := 6) rfl rfl ?_
  refine W_iloadN B (hb hby d19_6) (pc' := 7) rfl rfl ?_
  refine W_icmpN B (hb hby d19_7) (pc' := 10) rfl (by decide) ?_
  refine W_aloadN B (hb hby d19_10) (pc' := 11) rfl rfl rfl ?_
  refine W_iloadN B (hb hby d19_11) (pc' := 12) rfl rfl ?_
  refine W_iloadN B (hb hby d19_12) (pc' := 13) rfl rfl ?_
  refine W_iastore B (hb hby d19_13) (pc' := 14) rfl (i := 0) rfl (by decide) (oLt rfl) (ds' := ((ka1, oA .int [(.int (-1 : Int32)), (.int (-1 : Int32)), (.int (-1 : Int32)), (.int (-1 : Int32)), (.int (-1 : Int32)), o0, o0, o0, o0, o0, o0, o0, o0, o0, o0, o0]) :: ds)) rfl ?_
  intro T B
  refine W_iinc B (hb hby d19_14) (pc' := 17) rfl rfl (z := (5 : Int32)) (by decide) (ls' := #[.val (.ref ka1), .val (.int (-1 : Int32)), .val (.int (5 : Int32)), .val (.int (16 : Int32))]) rfl ?_
  refine W_goto B (hb hby d19_17) (by decide) (pc' := 5) (by decide) ?_
  refine W_iloadN B (hb hby d19_5) (pc' := 6) rfl rfl ?_
  refine W_iloadN B (hb hby d19_6) (pc' := 7) rfl rfl ?_
  refine W_icmpN B (hb hby d19_7) (pc' := 10) rfl (by decide) ?_
  refine W_aloadN B (hb hby d19_10) (pc' := 11) rfl rfl rfl ?_
  refine W_iloadN B (hb hby d19_11) (pc' := 12) rfl rfl ?_
  refine W_iloadN B (hb hby d19_12) (pc' := 13) rfl rfl ?_
  refine W_iastore B (hb hby d19_13) (pc' := 14) rfl (i := 0) rfl (by decide) (oLt rfl) (ds' := ((ka1, oA .int [(.int (-1 : Int32)), (.int (-1 : Int32)), (.int (-1 : Int32)), (.int (-1 : Int32)), (.int (-1 : Int32)), (.int (-1 : Int32)), o0, o0, o0, o0, o0, o0, o0, o0, o0, o0]) :: ds)) rfl ?_
  intro T B
  refine W_iinc B (hb hby d19_14) (pc' := 17) rfl rfl (z := (6 : Int32)) (by decide) (ls' := #[.val (.ref ka1), .val (.int (-1 : Int32)), .val (.int (6 : Int32)), .val (.int (16 : Int32))]) rfl ?_
  refine W_goto B (hb hby d19_17) (by decide) (pc' := 5) (by decide) ?_
  refine W_iloadN B (hb hby d19_5) (pc' := 6) rfl rfl ?_
  refine W_iloadN B (hb hby d19_6) (pc' := 7) rfl rfl ?_
  refine W_icmpN B (hb hby d19_7) (pc' := 10) rfl (by decide) ?_
  refine W_aloadN B (hb hby d19_10) (pc' := 11) rfl rfl rfl ?_
  refine W_iloadN B (hb hby d19_11) (pc' := 12) rfl rfl ?_
  refine W_iloadN B (hb hby d19_12) (pc' := 13) rfl rfl ?_
  refine W_iastore B (hb hby d19_13) (pc' := 14) rfl (i := 0) rfl (by decide) (oLt rfl) (ds' := ((ka1, oA .int [(.int (-1 : Int32)), (.int (-1 : Int32)), (.int (-1 : Int32)), (.int (-1 : Int32)), (.int (-1 : Int32)), (.int (-1 : Int32)), (.int (-1 : Int32)), o0, o0, o0, o0, o0, o0, o0, o0, o0]) :: ds)) rfl ?_
  intro T B
  refine W_iinc B (hb hby d19_14) (pc' := 17) rfl rfl (z := (7 : Int32)) (by decide) (ls' := #[.val (.ref ka1), .val (.int (-1 : Int32)), .val (.int (7 : Int32)), .val (.int (16 : Int32))]) rfl ?_
  refine W_goto B (hb hby d19_17) (by decide) (pc' := 5) (by decide) ?_
  refine W_iloadN B (hb hby d19_5) (pc' := 6) rfl rfl ?_
  refine W_iloadN B (hb hby d19_6) (pc' := 7) rfl rfl ?_
  refine W_icmpN B (hb hby d19_7) (pc' := 10) rfl (by decide) ?_
  refine W_aloadN B (hb hby d19_10) (pc' := 11) rfl rfl rfl ?_
  refine W_iloadN B (hb hby d19_11) (pc' := 12) rfl rfl ?_
  refine W_iloadN B (hb hby d19_12) (pc' := 13) rfl rfl ?_
  refine W_iastore B (hb hby d19_13) (pc' := 14) rfl (i := 0) rfl (by decide) (oLt rfl) (ds' := ((ka1, oA .int [(.int (-1 : Int32)), (.int (-1 : Int32)), (.int (-1 : Int32)), (.int (-1 : Int32)), (.int (-1 : Int32)), (.int (-1 : Int32)), (.int (-1 : Int32)), (.int (-1 : Int32)), o0, o0, o0, o0, o0, o0, o0, o0]) :: ds)) rfl ?_
  intro T B
  refine W_iinc B (hb hby d19_14) (pc' := 17) rfl rfl (z := (8 : Int32)) (by decide) (ls' := #[.val (.ref ka1), .val (.int (-1 : Int32)), .val (.int (8 : Int32)), .val (.int (16 : Int32))]) rfl ?_
  refine W_goto B (hb hby d19_17) (by decide) (pc' := 5) (by decide) ?_
  refine W_iloadN B (hb hby d19_5) (pc' := 6) rfl rfl ?_
  refine W_iloadN B (hb hby d19_6) (pc' := 7) rfl rfl ?_
  refine W_icmpN B (hb hby d19_7) (pc' := 10) rfl (by decide) ?_
  refine W_aloadN B (hb hby d19_10) (pc' := 11) rfl rfl rfl ?_
  refine W_iloadN B (hb hby d19_11) (pc' := 12) rfl rfl ?_
  refine W_iloadN B (hb hby d19_12) (pc' := 13) rfl rfl ?_
  refine W_iastore B (hb hby d19_13) (pc' := 14) rfl (i := 0) rfl (by decide) (oLt rfl) (ds' := ((ka1, oA .int [(.int (-1 : Int32)), (.int (-1 : Int32)), (.int (-1 : Int32)), (.int (-1 : Int32)), (.int (-1 : Int32)), (.int (-1 : Int32)), (.int (-1 : Int32)), (.int (-1 : Int32)), (.int (-1 : Int32)), o0, o0, o0, o0, o0, o0, o0]) :: ds)) rfl ?_
  intro T B
  refine W_iinc B (hb hby d19_14) (pc' := 17) rfl rfl (z := (9 : Int32)) (by decide) (ls' := #[.val (.ref ka1), .val (.int (-1 : Int32)), .val (.int (9 : Int32)), .val (.int (16 : Int32))]) rfl ?_
  refine W_goto B (hb hby d19_17) (by decide) (pc' := 5) (by decide) ?_
  refine W_iloadN B (hb hby d19_5) (pc' := 6) rfl rfl ?_
  refine W_iloadN B (hb hby d19_6) (pc' := 7) rfl rfl ?_
  refine W_icmpN B (hb hby d19_7) (pc' := 10) rfl (by decide) ?_
  refine W_aloadN B (hb hby d19_10) (pc' := 11) rfl rfl rfl ?_
  refine W_iloadN B (hb hby d19_11) (pc' := 12) rfl rfl ?_
  refine W_iloadN B (hb hby d19_12) (pc' := 13) rfl rfl ?_
  refine W_iastore B (hb hby d19_13) (pc' := 14) rfl (i := 0) rfl (by decide) (oLt rfl) (ds' := ((ka1, oA .int [(.int (-1 : Int32)), (.int (-1 : Int32)), (.int (-1 : Int32)), (.int (-1 : Int32)), (.int (-1 : Int32)), (.int (-1 : Int32)), (.int (-1 : Int32)), (.int (-1 : Int32)), (.int (-1 : Int32)), (.int (-1 : Int32)), o0, o0, o0, o0, o0, o0]) :: ds)) rfl ?_
  intro T B
  refine W_iinc B (hb hby d19_14) (pc' := 17) rfl rfl (z := (10 : Int32)) (by decide) (ls' := #[.val (.ref ka1), .val (.int (-1 : Int32)), .val (.int (10 : Int32)), .val (.int (16 : Int32))]) rfl ?_
  refine W_goto B (hb hby d19_17) (by decide) (pc' := 5) (by decide) ?_
  refine W_iloadN B (hb hby d19_5) (pc' := 6) rfl rfl ?_
  refine W_iloadN B (hb hby d19_6) (pc' := 7) rfl rfl ?_
  refine W_icmpN B (hb hby d19_7) (pc' := 10) rfl (by decide) ?_
  refine W_aloadN B (hb hby d19_10) (pc' := 11) rfl rfl rfl ?_
  refine W_iloadN B (hb hby d19_11) (pc' := 12) rfl rfl ?_
  refine W_iloadN B (hb hby d19_12) (pc' := 13) rfl rfl ?_
  refine W_iastore B (hb hby d19_13) (pc' := 14) rfl (i := 0) rfl (by decide) (oLt rfl) (ds' := ((ka1, oA .int [(.int (-1 : Int32)), (.int (-1 : Int32)), (.int (-1 : Int32)), (.int (-1 : Int32)), (.int (-1 : Int32)), (.int (-1 : Int32)), (.int (-1 : Int32)), (.int (-1 : Int32)), (.int (-1 : Int32)), (.int (-1 : Int32)), (.int (-1 : Int32)), o0, o0, o0, o0, o0]) :: ds)) rfl ?_
  intro T B
  refine W_iinc B (hb hby d19_14) (pc' := 17) rfl rfl (z := (11 : Int32)) (by decide) (ls' := #[.val (.ref ka1), .val (.int (-1 : Int32)), .val (.int (11 : Int32)), .val (.int (16 : Int32))]) rfl ?_
  refine W_goto B (hb hby d19_17) (by decide) (pc' := 5) (by decide) ?_
  refine W_iloadN B (hb hby d19_5) (pc' := 6) rfl rfl ?_
  refine W_iloadN B (hb hby d19_6) (pc' := 7) rfl rfl ?_
  refine W_icmpN B (hb hby d19_7) (pc' := 10) rfl (by decide) ?_
  refine W_aloadN B (hb hby d19_10) (pc' := 11) rfl rfl rfl ?_
  refine W_iloadN B (hb hby d19_11) (pc' := 12) rfl rfl ?_
  refine W_iloadN B (hb hby d19_12) (pc' := 13) rfl rfl ?_
  refine W_iastore B (hb hby d19_13) (pc' := 14) rfl (i := 0) rfl (by decide) (oLt rfl) (ds' := ((ka1, oA .int [(.int (-1 : Int32)), (.int (-1 : Int32)), (.int (-1 : Int32)), (.int (-1 : Int32)), (.int (-1 : Int32)), (.int (-1 : Int32)), (.int (-1 : Int32)), (.int (-1 : Int32)), (.int (-1 : Int32)), (.int (-1 : Int32)), (.int (-1 : Int32)), (.int (-1 : Int32)), o0, o0, o0, o0]) :: ds)) rfl ?_
  intro T B
  refine W_iinc B (hb hby d19_14) (pc' := 17) rfl rfl (z := (12 : Int32)) (by decide) (ls' := #[.val (.ref ka1), .val (.int (-1 : Int32)), .val (.int (12 : Int32)), .val (.int (16 : Int32))]) rfl ?_
  refine W_goto B (hb hby d19_17) (by decide) (pc' := 5) (by decide) ?_
  refine W_iloadN B (hb hby d19_5) (pc' := 6) rfl rfl ?_
  refine W_iloadN B (hb hby d19_6) (pc' := 7) rfl rfl ?_
  refine W_icmpN B (hb hby d19_7) (pc' := 10) rfl (by decide) ?_
  refine W_aloadN B (hb hby d19_10) (pc' := 11) rfl rfl rfl ?_
  refine W_iloadN B (hb hby d19_11) (pc' := 12) rfl rfl ?_
  refine W_iloadN B (hb hby d19_12) (pc' := 13) rfl rfl ?_
  refine W_iastore B (hb hby d19_13) (pc' := 14) rfl (i := 0) rfl (by decide) (oLt rfl) (ds' := ((ka1, oA .int [(.int (-1 : Int32)), (.int (-1 : Int32)), (.int (-1 : Int32)), (.int (-1 : Int32)), (.int (-1 : Int32)), (.int (-1 : Int32)), (.int (-1 : Int32)), (.int (-1 : Int32)), (.int (-1 : Int32)), (.int (-1 : Int32)), (.int (-1 : Int32)), (.int (-1 : Int32)), (.int (-1 : Int32)), o0, o0, o0]) :: ds)) rfl ?_
  intro T B
  refine W_iinc B (hb hby d19_14) (pc' := 17) rfl rfl (z := (13 : Int32)) (by decide) (ls' := #[.val (.ref ka1), .val (.int (-1 : Int32)), .val (.int (13 : Int32)), .val (.int (16 : Int32))]) rfl ?_
  refine W_goto B (hb hby d19_17) (by decide) (pc' := 5) (by decide) ?_
  refine W_iloadN B (hb hby d19_5) (pc' := 6) rfl rfl ?_
  refine W_iloadN B (hb hby d19_6) (pc' := 7) rfl rfl ?_
  refine W_icmpN B (hb hby d19_7) (pc' := 10) rfl (by decide) ?_
  refine W_aloadN B (hb hby d19_10) (pc' := 11) rfl rfl rfl ?_
  refine W_iloadN B (hb hby d19_11) (pc' := 12) rfl rfl ?_
  refine W_iloadN B (hb hby d19_12) (pc' := 13) rfl rfl ?_
  refine W_iastore B (hb hby d19_13) (pc' := 14) rfl (i := 0) rfl (by decide) (oLt rfl) (ds' := ((ka1, oA .int [(.int (-1 : Int32)), (.int (-1 : Int32)), (.int (-1 : Int32)), (.int (-1 : Int32)), (.int (-1 : Int32)), (.int (-1 : Int32)), (.int (-1 : Int32)), (.int (-1 : Int32)), (.int (-1 : Int32)), (.int (-1 : Int32)), (.int (-1 : Int32)), (.int (-1 : Int32)), (.int (-1 : Int32)), (.int (-1 : Int32)), o0, o0]) :: ds)) rfl ?_
  intro T B
  refine W_iinc B (hb hby d19_14) (pc' := 17) rfl rfl (z := (14 : Int32)) (by decide) (ls' := #[.val (.ref ka1), .val (.int (-1 : Int32)), .val (.int (14 : Int32)), .val (.int (16 : Int32))]) rfl ?_
  refine W_goto B (hb hby d19_17) (by decide) (pc' := 5) (by decide) ?_
  refine W_iloadN B (hb hby d19_5) (pc' := 6) rfl rfl ?_
  refine W_iloadN B (hb hby d19_6) (pc' := 7) rfl rfl ?_
  refine W_icmpN B (hb hby d19_7) (pc' := 10) rfl (by decide) ?_
  refine W_aloadN B (hb hby d19_10) (pc' := 11) rfl rfl rfl ?_
  refine W_iloadN B (hb hby d19_11) (pc' := 12) rfl rfl ?_
  refine W_iloadN B (hb hby d19_12) (pc' := 13) rfl rfl ?_
  refine W_iastore B (hb hby d19_13) (pc' := 14) rfl (i := 0) rfl (by decide) (oLt rfl) (ds' := ((ka1, oA .int [(.int (-1 : Int32)), (.int (-1 : Int32)), (.int (-1 : Int32)), (.int (-1 : Int32)), (.int (-1 : Int32)), (.int (-1 : Int32)), (.int (-1 : Int32)), (.int (-1 : Int32)), (.int (-1 : Int32)), (.int (-1 : Int32)), (.int (-1 : Int32)), (.int (-1 : Int32)), (.int (-1 : Int32)), (.int (-1 : Int32)), (.int (-1 : Int32)), o0]) :: ds)) rfl ?_
  intro T B
  refine W_iinc B (hb hby d19_14) (pc' := 17) rfl rfl (z := (15 : Int32)) (by decide) (ls' := #[.val (.ref ka1), .val (.int (-1 : Int32)), .val (.int (15 : Int32)), .val (.int (16 : Int32))]) rfl ?_
  refine W_goto B (hb hby d19_17) (by decide) (pc' := 5) (by decide) ?_
  refine W_iloadN B (hb hby d19_5) (pc' := 6) rfl rfl ?_
  refine W_iloadN B (hb hby d19_6) (pc' := 7) rfl rfl ?_
  refine W_icmpN B (hb hby d19_7) (pc' := 10) rfl (by decide) ?_
  refine W_aloadN B (hb hby d19_10) (pc' := 11) rfl rfl rfl ?_
  refine W_iloadN B (hb hby d19_11) (pc' := 12) rfl rfl ?_
  refine W_iloadN B (hb hby d19_12) (pc' := 13) rfl rfl ?_
  refine W_iastore B (hb hby d19_13) (pc' := 14) rfl (i := 0) rfl (by decide) (oLt rfl) (ds' := ((ka1, oA .int [(.int (-1 : Int32)), (.int (-1 : Int32)), (.int (-1 : Int32)), (.int (-1 : Int32)), (.int (-1 : Int32)), (.int (-1 : Int32)), (.int (-1 : Int32)), (.int (-1 : Int32)), (.int (-1 : Int32)), (.int (-1 : Int32)), (.int (-1 : Int32)), (.int (-1 : Int32)), (.int (-1 : Int32)), (.int (-1 : Int32)), (.int (-1 : Int32)), (.int (-1 : Int32))]) :: ds)) rfl ?_
  intro T B
  refine W_iinc B (hb hby d19_14) (pc' := 17) rfl rfl (z := (16 : Int32)) (by decide) (ls' := #[.val (.ref ka1), .val (.int (-1 : Int32)), .val (.int (16 : Int32)), .val (.int (16 : Int32))]) rfl ?_
  refine W_goto B (hb hby d19_17) (by decide) (pc' := 5) (by decide) ?_
  refine W_iloadN B (hb hby d19_5) (pc' := 6) rfl rfl ?_
  refine W_iloadN B (hb hby d19_6) (pc' := 7) rfl rfl ?_
  refine W_icmpY B (hb hby d19_7) (by decide) (pc' := 20) (by decide) (by decide) ?_
  refine W_retV B hret (hb hby d19_20) (by decide) ?_
  exact ⟨rfl, rfl⟩
theorem pd_9 : parseMethodDescriptor "([II)V" = some ⟨[(.array .int), .int], none⟩ := by decide +kernel
theorem d17_21 : decode prog_46_method_1_code 21 = .ok (.aload_n 0, 1) := by decide +kernel
theorem d17_22 : decode prog_46_method_1_code 22 = .ok (.bipush 16, 2) := by decide +kernel
theorem d17_24 : decode prog_46_method_1_code 24 = .ok (.newarray .int, 2) := by decide +kernel
theorem d17_26 : decode prog_46_method_1_code 26 = .ok (.putfield 19, 3) := by decide +kernel
theorem d17_29 : decode prog_46_method_1_code 29 = .ok (.return_, 1) := by decide +kernel
theorem ef_rm_a14 (m : MethodId) (x0 : Addr) (x1 : Addr) : entryFrame m #[(.ref x0), (.ref x1)] 2 = mkF m 0 #[.val (.ref x0), .val (.ref x1)] [] := by first | (simp [entryFrame, mkF, argsToLocals, Value.category]; done) | rfl
theorem pn_8 : plainName "com/example/tanglemark/tanglemark/datalog/Relation$Chains" = true := by first | (simp [plainName, overriddenIn]; done) | decide +kernel
set_option maxRecDepth 65536 in
set_option maxHeartbeats 40000000 in
theorem rm_a14 (l : Launch) (Z : State) (a0 : Array Value) (hw : ∀ d ∈ tables_1, d.before a0 Z = true) (h0 : Heap) {lo : Nat} (ka1 : Addr) (ka2 : Addr) (e0 : Addr × oD) (ds : oDs) :
    oMet l Z h0 lo (⟨"com/example/tanglemark/tanglemark/datalog/Relation$Chains", "<init>", "([I)V"⟩ : MethodName) prog_46_method_1_code 2 none [] ({ frames := 2, cells := 2, slots := 32, locals := 25 } : Room) #[(.ref ka1), (.ref ka2)] (e0 :: (ka1, oO cn3 [(fk18, .null), (fk19, .null), (fk20, .null)]) :: ds) (fun (v : Option Value) (d : oDs) => (∃ (b22 : Addr) (b21 : Addr), v = none ∧ ((b22, oA .int [o0, o0, o0, o0, o0, o0, o0, o0, o0, o0, o0, o0, o0, o0, o0, o0]) :: (b21, oA .int [(.int (-1 : Int32)), (.int (-1 : Int32)), (.int (-1 : Int32)), (.int (-1 : Int32)), (.int (-1 : Int32)), (.int (-1 : Int32)), (.int (-1 : Int32)), (.int (-1 : Int32)), (.int (-1 : Int32)), (.int (-1 : Int32)), (.int (-1 : Int32)), (.int (-1 : Int32)), (.int (-1 : Int32)), (.int (-1 : Int32)), (.int (-1 : Int32)), (.int (-1 : Int32))]) :: e0 :: (ka1, oO cn3 [(fk18, (.ref ka2)), (fk19, (.ref b21)), (fk20, (.ref b22))]) :: ds) = d)) := by
  refine oMet.of_body (plainFor_of_name pn_8) ?_
  intro p e s m below meth c T B hby hml hown hnm hret
  refine W_entry (ef_rm_a14 m ka1 ka2) ?_
  refine W_aloadN B (hb hby d17_0) (pc' := 1) rfl rfl rfl ?_
  refine W_aloadN B (hb hby d17_1) (pc' := 2) rfl rfl rfl ?_
  refine W_initN B (y := (⟨"com/example/tanglemark/tanglemark/datalog/Relation$Index", "<init>", "([I)V"⟩ : MethodName)) hown rfl (ow hw (i := 151) rfl) (ow hw (i := 152) rfl) (ow hw (i := 154) rfl) (ow hw (i := 155) rfl) (by decide) (a := ka1) (rm_a12 l Z a0 hw h0 ka1 ka2 _ _ ) (lenOf pd_8 rfl) (hb hby d17_2) (pc' := 5) rfl (argsL := [(.ref ka2)]) (rest := []) rfl (by rw [hml]; rfl) (W := 0) (oLe rfl) (by decide) (cells' := 0) rfl (slots' := 0) rfl ?_
  intro T v_ d_ q_ B
  obtain ⟨rfl, rfl⟩ := q_
  show oWin p e below Z h0 _ _ (T.setTop (mkF m 5 #[.val (.ref ka1), .val (.ref ka2)] []))
  refine W_aloadN B (hb hby d17_5) (pc' := 6) rfl rfl rfl ?_
  refine W_bipush B (hb hby d17_6) (pc' := 8) rfl (z := (16 : Int32)) (by decide) ?_
  refine W_newarray B (ow hw (i := 0) rfl) (hb hby d17_8) (pc' := 10) rfl (by decide) (cap := 16) (by decide) (by decide) (cells' := 1) rfl (slots' := 16) rfl (vs := [(.int (0 : Int32)), (.int (0 : Int32)), (.int (0 : Int32)), (.int (0 : Int32)), (.int (0 : Int32)), (.int (0 : Int32)), (.int (0 : Int32)), (.int (0 : Int32)), (.int (0 : Int32)), (.int (0 : Int32)), (.int (0 : Int32)), (.int (0 : Int32)), (.int (0 : Int32)), (.int (0 : Int32)), (.int (0 : Int32)), (.int (0 : Int32))]) rfl (ty := .int) rfl ?_
  intro T b21 B
  refine W_putfield B hown (host := "") (Or.inl (ow hw (i := 159) rfl)) Via.refl (hb hby d17_10) (pc' := 13) rfl (Or.inl (ow hw (i := 160) rfl)) (ow hw (i := 137) rfl) (ty := (.array .int)) (by decide) rfl rfl (j := 2) rfl (q := 1) rfl (ds' := ((b21, oA .int [o0, o0, o0, o0, o0, o0, o0, o0, o0, o0, o0, o0, o0, o0, o0, o0]) :: e0 :: (ka1, oO cn3 [(fk18, (.ref ka2)), (fk19, (.ref b21)), (fk20, .null)]) :: ds)) rfl ?_
  intro T B
  refine W_aloadN B (hb hby d17_13) (pc' := 14) rfl rfl rfl ?_
  refine W_getfield B hown (host := "") (Or.inl (ow hw (i := 159) rfl)) Via.refl (hb hby d17_14) (pc' := 17) rfl (j := 2) rfl (q := 1) rfl ?_
  intro T B
  refine W_iconst B (hb hby d17_17) (pc' := 18) rfl (z := (-1 : Int32)) (by decide) ?_
  refine W_callS B (y := (⟨"java/util/Arrays", "fill", "([II)V"⟩ : MethodName)) hown (ow hw (i := 161) rfl) (ow hw (i := 162) rfl) (ow hw (i := 78) rfl) (ow hw (i := 163) rfl) (by decide) (rm_a13 l Z a0 hw h0 b21 _ ) (lenOf pd_9 rfl) (hb hby d17_18) (pc' := 21) rfl (argsL := [(.ref b21), (.int (-1 : Int32))]) (rest := []) rfl (by rw [hml]; rfl) (W := 0) (oLe rfl) (by decide) (cells' := 1) rfl (slots' := 16) rfl ?_
  intro T v_ d_ q_ B
  obtain ⟨rfl, rfl⟩ := q_
  show oWin p e below Z h0 _ _ (T.setTop (mkF m 21 #[.val (.ref ka1), .val (.ref ka2)] []))
  refine W_aloadN B (hb hby d17_21) (pc' := 22) rfl rfl rfl ?_
  refine W_bipush B (hb hby d17_22) (pc' := 24) rfl (z := (16 : Int32)) (by decide) ?_
  refine W_newarray B (ow hw (i := 0) rfl) (hb hby d17_24) (pc' := 26) rfl (by decide) (cap := 16) (by decide) (by decide) (cells' := 2) rfl (slots' := 32) rfl (vs := [(.int (0 : Int32)), (.int (0 : Int32)), (.int (0 : Int32)), (.int (0 : Int32)), (.int (0 : Int32)), (.int (0 : Int32)), (.int (0 : Int32)), (.int (0 : Int32)), (.int (0 : Int32)), (.int (0 : Int32)), (.int (0 : Int32)), (.int (0 : Int32)), (.int (0 : Int32)), (.int (0 : Int32)), (.int (0 : Int32)), (.int (0 : Int32))]) rfl (ty := .int) rfl ?_
  intro T b22 B
  refine W_putfield B hown (host := "") (Or.inl (ow hw (i := 164) rfl)) Via.refl (hb hby d17_26) (pc' := 29) rfl (Or.inl (ow hw (i := 165) rfl)) (ow hw (i := 137) rfl) (ty := (.array .int)) (by decide) rfl rfl (j := 3) rfl (q := 2) rfl (ds' := ((b22, oA .int [o0, o0, o0, o0, o0, o0, o0, o0, o0, o0, o0, o0, o0, o0, o0, o0]) :: (b21, oA .int [(.int (-1 : Int32)), (.int (-1 : Int32)), (.int (-1 : Int32)), (.int (-1 : Int32)), (.int (-1 : Int32)), (.int (-1 : Int32)), (.int (-1 : Int32)), (.int (-1 : Int32)), (.int (-1 : Int32)), (.int (-1 : Int32)), (.int (-1 : Int32)), (.int (-1 : Int32)), (.int (-1 : Int32)), (.int (-1 : Int32)), (.int (-1 : Int32)), (.int (-1 : Int32))]) :: e0 :: (ka1, oO cn3 [(fk18, (.ref ka2)), (fk19, (.ref b21)), (fk20, (.ref b22))]) :: ds)) rfl ?_
  intro T B
  refine W_retV B hret (hb hby d17_29) (by decide) ?_
  exact ⟨b22, b21, rfl, rfl⟩
theorem d13_128 : decode prog_45_method_21_code 128 = .ok (.astore_n 2, 1) := by decide +kernel
theorem d13_129 : decode prog_45_method_21_code 129 = .ok (.aload_n 0, 1) := by decide +kernel
theorem d13_130 : decode prog_45_method_21_code 130 = .ok (.getfield 18, 3) := by decide +kernel
theorem d13_133 : decode prog_45_method_21_code 133 = .ok (.aload_n 2, 1) := by decide +kernel
theorem d13_134 : decode prog_45_method_21_code 134 = .ok (.invokeinterface 246 2, 5) := by decide +kernel
theorem d20_0 : decode jdk_38_method_25_code 0 = .ok (.aload_n 0, 1) := by decide +kernel
theorem d20_1 : decode jdk_38_method_25_code 1 = .ok (.dup, 1) := by decide +kernel
theorem d20_2 : decode jdk_38_method_25_code 2 = .ok (.getfield 63, 3) := by decide +kernel
theorem d20_5 : decode jdk_38_method_25_code 5 = .ok (.iconst 1, 1) := by decide +kernel
theorem d20_6 : decode jdk_38_method_25_code 6 = .ok (.iadd, 1) := by decide +kernel
theorem d20_7 : decode jdk_38_method_25_code 7 = .ok (.putfield 63, 3) := by decide +kernel
theorem d20_10 : decode jdk_38_method_25_code 10 = .ok (.aload_n 0, 1) := by decide +kernel
theorem d20_11 : decode jdk_38_method_25_code 11 = .ok (.aload_n 1, 1) := by decide +kernel
theorem d20_12 : decode jdk_38_method_25_code 12 = .ok (.aload_n 0, 1) := by decide +kernel
theorem d20_13 : decode jdk_38_method_25_code 13 = .ok (.getfield 9, 3) := by decide +kernel
theorem d20_16 : decode jdk_38_method_25_code 16 = .ok (.aload_n 0, 1) := by decide +kernel
theorem d20_17 : decode jdk_38_method_25_code 17 = .ok (.getfield 48, 3) := by decide +kernel
theorem d20_20 : decode jdk_38_method_25_code 20 = .ok (.invokevirtual 131, 3) := by decide +kernel
theorem d21_0 : decode jdk_38_method_24_code 0 = .ok (.iload_n 3, 1) := by decide +kernel
theorem d21_1 : decode jdk_38_method_24_code 1 = .ok (.aload_n 2, 1) := by decide +kernel
theorem d21_2 : decode jdk_38_method_24_code 2 = .ok (.arraylength, 1) := by decide +kernel
theorem d21_3 : decode jdk_38_method_24_code 3 = .ok (.if_icmp .ne 8, 3) := by decide +kernel
theorem d21_6 : decode jdk_38_method_24_code 6 = .ok (.aload_n 0, 1) := by decide +kernel
theorem d21_7 : decode jdk_38_method_24_code 7 = .ok (.invokevirtual 129, 3) := by decide +kernel
theorem d22_0 : decode jdk_38_method_7_code 0 = .ok (.aload_n 0, 1) := by decide +kernel
theorem d22_1 : decode jdk_38_method_7_code 1 = .ok (.aload_n 0, 1) := by decide +kernel
theorem d22_2 : decode jdk_38_method_7_code 2 = .ok (.getfield 48, 3) := by decide +kernel
theorem d22_5 : decode jdk_38_method_7_code 5 = .ok (.iconst 1, 1) := by decide +kernel
theorem d22_6 : decode jdk_38_method_7_code 6 = .ok (.iadd, 1) := by decide +kernel
theorem d22_7 : decode jdk_38_method_7_code 7 = .ok (.invokevirtual 69, 3) := by decide +kernel
theorem d23_0 : decode jdk_38_method_6_code 0 = .ok (.aload_n 0, 1) := by decide +kernel
theorem d23_1 : decode jdk_38_method_6_code 1 = .ok (.getfield 9, 3) := by decide +kernel
theorem d23_4 : decode jdk_38_method_6_code 4 = .ok (.arraylength, 1) := by decide +kernel
theorem d23_5 : decode jdk_38_method_6_code 5 = .ok (.istore_n 2, 1) := by decide +kernel
theorem d23_6 : decode jdk_38_method_6_code 6 = .ok (.iload_n 2, 1) := by decide +kernel
theorem d23_7 : decode jdk_38_method_6_code 7 = .ok (.ifCond .gt 13, 3) := by decide +kernel
theorem d23_10 : decode jdk_38_method_6_code 10 = .ok (.aload_n 0, 1) := by decide +kernel
theorem d23_11 : decode jdk_38_method_6_code 11 = .ok (.getfield 9, 3) := by decide +kernel
theorem d23_14 : decode jdk_38_method_6_code 14 = .ok (.getstatic 39, 3) := by decide +kernel
theorem d23_17 : decode jdk_38_method_6_code 17 = .ok (.if_acmp .eq 28, 3) := by decide +kernel
theorem d23_45 : decode jdk_38_method_6_code 45 = .ok (.aload_n 0, 1) := by decide +kernel
theorem d23_46 : decode jdk_38_method_6_code 46 = .ok (.bipush 10, 2) := by decide +kernel
theorem d23_48 : decode jdk_38_method_6_code 48 = .ok (.iload_n 1, 1) := by decide +kernel
theorem d23_49 : decode jdk_38_method_6_code 49 = .ok (.invokestatic 79, 3) := by decide +kernel
theorem d24_0 : decode jdk_29_method_65_code 0 = .ok (.iload_n 0, 1) := by decide +kernel
theorem d24_1 : decode jdk_29_method_65_code 1 = .ok (.iload_n 1, 1) := by decide +kernel
theorem d24_2 : decode jdk_29_method_65_code 2 = .ok (.if_icmp .lt 7, 3) := by decide +kernel
theorem d24_5 : decode jdk_29_method_65_code 5 = .ok (.iload_n 0, 1) := by decide +kernel
theorem d24_6 : decode jdk_29_method_65_code 6 = .ok (.goto 4, 3) := by decide +kernel
theorem d24_10 : decode jdk_29_method_65_code 10 = .ok (.ireturn, 1) := by decide +kernel
theorem ef_rm_a15 (m : MethodId)  : entryFrame m #[(.int (10 : Int32)), (.int (1 : Int32))] 2 = mkF m 0 #[.val (.int (10 : Int32)), .val (.int (1 : Int32))] [] := by first | (simp [entryFrame, mkF, argsToLocals, Value.category]; done) | rfl
set_option maxRecDepth 65536 in
set_option maxHeartbeats 40000000 in
theorem rm_a15 (l : Launch) (Z : State) (a0 : Array Value) (hw : ∀ d ∈ tables_1, d.before a0 Z = true) (h0 : Heap) {lo : Nat} (ds : oDs) :
    oMet l Z h0 lo (⟨"java/lang/Math", "max", "(II)I"⟩ : MethodName) jdk_29_method_65_code 2 (some .int) [] ({ frames := 0, cells := 0, slots := 0, locals := 0 } : Room) #[(.int (10 : Int32)), (.int (1 : Int32))] (ds) (fun (v : Option Value) (d : oDs) => (v = some (.int (10 : Int32)) ∧ (ds) = d)) := by
  refine oMet.of_body (Jvm.Free.JP.mathPlain rfl (by decide +kernel)) ?_
  intro p e s m below meth c T B hby hml hown hnm hret
  refine W_entry (ef_rm_a15 m ) ?_
  refine W_iloadN B (hb hby d24_0) (pc' := 1) rfl rfl ?_
  refine W_iloadN B (hb hby d24_1) (pc' := 2) rfl rfl ?_
  refine W_icmpN B (hb hby d24_2) (pc' := 5) rfl (by decide) ?_
  refine W_iloadN B (hb hby d24_5) (pc' := 6) rfl rfl ?_
  refine W_goto B (hb hby d24_6) (by decide) (pc' := 10) (by decide) ?_
  refine W_retI B hret (hb hby d24_10) (by decide) ?_
  exact ⟨rfl, rfl⟩
theorem d23_52 : decode jdk_38_method_6_code 52 = .ok (.anewarray 7, 3) := by decide +kernel
theorem d23_55 : decode jdk_38_method_6_code 55 = .ok (.dup_x1, 1) := by decide +kernel
theorem d23_56 : decode jdk_38_method_6_code 56 = .ok (.putfield 9, 3) := by decide +kernel
theorem d23_59 : decode jdk_38_method_6_code 59 = .ok (.areturn, 1) := by decide +kernel
theorem ef_rm_a16 (m : MethodId) (x0 : Addr) : entryFrame m #[(.ref x0), (.int (1 : Int32))] 4 = mkF m 0 #[.val (.ref x0), .val (.int (1 : Int32)), .unset, .unset] [] := by first | (simp [entryFrame, mkF, argsToLocals, Value.category]; done) | rfl
set_option maxRecDepth 65536 in
set_option maxHeartbeats 40000000 in
theorem rm_a16 (l : Launch) (Z : State) (a0 : Array Value) (hw : ∀ d ∈ tables_1, d.before a0 Z = true) (h0 : Heap) {lo : Nat} (ka1 : Addr) (e0 : Addr × oD) (e1 : Addr × oD) (e2 : Addr × oD) (e3 : Addr × oD) (e4 : Addr × oD) (e5 : Addr × oD) (e6 : Addr × oD) (de : Addr) (ds : oDs) (hy0 : Sta Z h0 "java/util/ArrayList" "DEFAULTCAPACITY_EMPTY_ELEMENTDATA" "[Ljava/lang/Object;" (.ref de)) (hy1 : oOld Z h0 de (.object "java/lang/Object") 0) :
    oMet l Z h0 lo (⟨"java/util/ArrayList", "grow", "(I)[Ljava/lang/Object;"⟩ : MethodName) jdk_38_method_6_code 4 (some (.array (.object "java/lang/Object"))) [] ({ frames := 1, cells := 1, slots := 10, locals := 14 } : Room) #[(.ref ka1), (.int (1 : Int32))] (e0 :: e1 :: e2 :: e3 :: e4 :: e5 :: e6 :: (ka1, oO cn1 [(fk11, (.int (1 : Int32))), (fk12, (.ref de)), (fk13, (.int (0 : Int32)))]) :: ds) (fun (v : Option Value) (d : oDs) => (∃ (b26 : Addr), v = some (.ref b26) ∧ ((b26, oA (.object "java/lang/Object") [.null, .null, .null, .null, .null, .null, .null, .null, .null, .null]) :: e0 :: e1 :: e2 :: e3 :: e4 :: e5 :: e6 :: (ka1, oO cn1 [(fk11, (.int (1 : Int32))), (fk12, (.ref b26)), (fk13, (.int (0 : Int32)))]) :: ds) = d)) := by
  refine oMet.of_body (plainFor_of_name pn_2) ?_
  intro p e s m below meth c T B hby hml hown hnm hret
  refine W_entry (ef_rm_a16 m ka1) ?_
  refine W_aloadN B (hb hby d23_0) (pc' := 1) rfl rfl rfl ?_
  refine W_getfield B hown (host := "") (Or.inl (ow hw (i := 44) rfl)) Via.refl (hb hby d23_1) (pc' := 4) rfl (j := 7) rfl (q := 1) rfl ?_
  intro T B
  refine W_alenOld B hy1 (hb hby d23_4) (pc' := 5) rfl (z := (0 : Int32)) rfl ?_
  refine W_istoreN B (hb hby d23_5) (pc' := 6) rfl (v := (0 : Int32)) rfl (ls' := #[.val (.ref ka1), .val (.int (1 : Int32)), .val (.int (0 : Int32)), .unset]) rfl ?_
  refine W_iloadN B (hb hby d23_6) (pc' := 7) rfl rfl ?_
  refine W_ifN B (hb hby d23_7) (pc' := 10) rfl (by decide) ?_
  refine W_aloadN B (hb hby d23_10) (pc' := 11) rfl rfl rfl ?_
  refine W_getfield B hown (host := "") (Or.inl (ow hw (i := 44) rfl)) Via.refl (hb hby d23_11) (pc' := 14) rfl (j := 7) rfl (q := 1) rfl ?_
  intro T B
  refine W_getstatic B hown (host := "") (Or.inl (ow hw (i := 43) rfl)) Via.refl hy0 (hb hby d23_14) (pc' := 17) rfl ?_
  intro T B
  refine W_acmp B (hb hby d23_17) rfl rfl (same := true) (decide_eq_true rfl) (by decide) (pc' := 45) rfl ?_
  refine W_aloadN B (hb hby d23_45) (pc' := 46) rfl rfl rfl ?_
  refine W_bipush B (hb hby d23_46) (pc' := 48) rfl (z := (10 : Int32)) (by decide) ?_
  refine W_iloadN B (hb hby d23_48) (pc' := 49) rfl rfl ?_
  refine W_callS B (y := (⟨"java/lang/Math", "max", "(II)I"⟩ : MethodName)) hown (ow hw (i := 191) rfl) (ow hw (i := 192) rfl) (ow hw (i := 67) rfl) (ow hw (i := 193) rfl) (by decide) (rm_a15 l Z a0 hw h0 _ ) (lenOf pd_2 rfl) (hb hby d23_49) (pc' := 52) rfl (argsL := [(.int (10 : Int32)), (.int (1 : Int32))]) (rest := [(.ref ka1)]) rfl (by rw [hml]; rfl) (W := 1) (oLe rfl) (by decide) (cells' := 0) rfl (slots' := 0) rfl ?_
  intro T v_ d_ q_ B
  obtain ⟨rfl, rfl⟩ := q_
  show oWin p e below Z h0 _ _ (T.setTop (mkF m 52 #[.val (.ref ka1), .val (.int (1 : Int32)), .val (.int (0 : Int32)), .unset] [(.int (10 : Int32)), (.ref ka1)]))
  refine W_anewarray B hown (ow hw (i := 194) rfl) (ow hw (i := 195) rfl) (hb hby d23_52) (pc' := 55) rfl (by decide) (cap := 10) (by decide) (by decide) (cells' := 1) rfl (slots' := 10) rfl (vs := [.null, .null, .null, .null, .null, .null, .null, .null, .null, .null]) rfl ?_
  intro T b26 B
  refine W_dupX1 B (hb hby d23_55) (pc' := 56) rfl rfl rfl ?_
  refine W_putfield B hown (host := "") (Or.inl (ow hw (i := 44) rfl)) Via.refl (hb hby d23_56) (pc' := 59) rfl (Or.inl (ow hw (i := 45) rfl)) (ow hw (i := 23) rfl) (ty := (.array (.object "java/lang/Object"))) (by decide) rfl rfl (j := 8) rfl (q := 1) rfl (ds' := ((b26, oA (.object "java/lang/Object") [.null, .null, .null, .null, .null, .null, .null, .null, .null, .null]) :: e0 :: e1 :: e2 :: e3 :: e4 :: e5 :: e6 :: (ka1, oO cn1 [(fk11, (.int (1 : Int32))), (fk12, (.ref b26)), (fk13, (.int (0 : Int32)))]) :: ds)) rfl ?_
  intro T B
  refine W_retA B hret rfl rfl (hb hby d23_59) (by decide) ?_
  exact ⟨b26, rfl, rfl⟩
theorem pd_10 : parseMethodDescriptor "(I)[Ljava/lang/Object;" = some ⟨[.int], some (.array (.object "java/lang/Object"))⟩ := by decide +kernel
theorem d22_10 : decode jdk_38_method_7_code 10 = .ok (.areturn, 1) := by decide +kernel
theorem ef_rm_a17 (m : MethodId) (x0 : Addr) : entryFrame m #[(.ref x0)] 1 = mkF m 0 #[.val (.ref x0)] [] := by first | (simp [entryFrame, mkF, argsToLocals, Value.category]; done) | rfl
set_option maxRecDepth 65536 in
set_option maxHeartbeats 40000000 in
theorem rm_a17 (l : Launch) (Z : State) (a0 : Array Value) (hw : ∀ d ∈ tables_1, d.before a0 Z = true) (h0 : Heap) {lo : Nat} (ka1 : Addr) (e0 : Addr × oD) (e1 : Addr × oD) (e2 : Addr × oD) (e3 : Addr × oD) (e4 : Addr × oD) (e5 : Addr × oD) (e6 : Addr × oD) (de : Addr) (ds : oDs) (hy0 : Sta Z h0 "java/util/ArrayList" "DEFAULTCAPACITY_EMPTY_ELEMENTDATA" "[Ljava/lang/Object;" (.ref de)) (hy1 : oOld Z h0 de (.object "java/lang/Object") 0) :
    oMet l Z h0 lo (⟨"java/util/ArrayList", "grow", "()[Ljava/lang/Object;"⟩ : MethodName) jdk_38_method_7_code 1 (some (.array (.object "java/lang/Object"))) [] ({ frames := 2, cells := 1, slots := 10, locals := 29 } : Room) #[(.ref ka1)] (e0 :: e1 :: e2 :: e3 :: e4 :: e5 :: e6 :: (ka1, oO cn1 [(fk11, (.int (1 : Int32))), (fk12, (.ref de)), (fk13, (.int (0 : Int32)))]) :: ds) (fun (v : Option Value) (d : oDs) => (∃ (b29 : Addr), v = some (.ref b29) ∧ ((b29, oA (.object "java/lang/Object") [.null, .null, .null, .null, .null, .null, .null, .null, .null, .null]) :: e0 :: e1 :: e2 :: e3 :: e4 :: e5 :: e6 :: (ka1, oO cn1 [(fk11, (.int (1 : Int32))), (fk12, (.ref b29)), (fk13, (.int (0 : Int32)))]) :: ds) = d)) := by
  refine oMet.of_body (plainFor_of_name pn_2) ?_
  intro p e s m below meth c T B hby hml hown hnm hret
  refine W_entry (ef_rm_a17 m ka1) ?_
  refine W_aloadN B (hb hby d22_0) (pc' := 1) rfl rfl rfl ?_
  refine W_aloadN B (hb hby d22_1) (pc' := 2) rfl rfl rfl ?_
  refine W_getfield B hown (host := "") (Or.inl (ow hw (i := 175) rfl)) Via.refl (hb hby d22_2) (pc' := 5) rfl (j := 7) rfl (q := 2) rfl ?_
  intro T B
  refine W_iconst B (hb hby d22_5) (pc' := 6) rfl (z := (1 : Int32)) (by decide) ?_
  refine W_iadd B (hb hby d22_6) (pc' := 7) rfl (z := (1 : Int32)) (by decide) ?_
  refine W_private B (y := (⟨"java/util/ArrayList", "grow", "(I)[Ljava/lang/Object;"⟩ : MethodName)) hown (ow hw (i := 186) rfl) (ow hw (i := 187) rfl) (ow hw (i := 189) rfl) (ow hw (i := 188) rfl) (ow hw (i := 24) rfl) (ow hw (i := 190) rfl) (by decide) (a := ka1) (rm_a16 l Z a0 hw h0 ka1 _ _ _ _ _ _ _ de _ hy0 hy1) (lenOf pd_10 rfl) (hb hby d22_7) (pc' := 10) rfl (argsL := [(.int (1 : Int32))]) (rest := []) rfl (by rw [hml]; rfl) (W := 0) (oLe rfl) (j := 7) rfl (by decide) (cells' := 1) rfl (slots' := 10) rfl ?_
  intro T v_ d_ q_ B
  obtain ⟨b29, rfl, rfl⟩ := q_
  show oWin p e below Z h0 _ _ (T.setTop (mkF m 10 #[.val (.ref ka1)] [(.ref b29)]))
  refine W_retA B hret rfl rfl (hb hby d22_10) (by decide) ?_
  exact ⟨b29, rfl, rfl⟩
theorem pd_11 : parseMethodDescriptor "()[Ljava/lang/Object;" = some ⟨[], some (.array (.object "java/lang/Object"))⟩ := by decide +kernel
theorem d21_10 : decode jdk_38_method_24_code 10 = .ok (.astore_n 2, 1) := by decide +kernel
theorem d21_11 : decode jdk_38_method_24_code 11 = .ok (.aload_n 2, 1) := by decide +kernel
theorem d21_12 : decode jdk_38_method_24_code 12 = .ok (.iload_n 3, 1) := by decide +kernel
theorem d21_13 : decode jdk_38_method_24_code 13 = .ok (.aload_n 1, 1) := by decide +kernel
theorem d21_14 : decode jdk_38_method_24_code 14 = .ok (.aastore, 1) := by decide +kernel
theorem d21_15 : decode jdk_38_method_24_code 15 = .ok (.aload_n 0, 1) := by decide +kernel
theorem d21_16 : decode jdk_38_method_24_code 16 = .ok (.iload_n 3, 1) := by decide +kernel
theorem d21_17 : decode jdk_38_method_24_code 17 = .ok (.iconst 1, 1) := by decide +kernel
theorem d21_18 : decode jdk_38_method_24_code 18 = .ok (.iadd, 1) := by decide +kernel
theorem d21_19 : decode jdk_38_method_24_code 19 = .ok (.putfield 48, 3) := by decide +kernel
theorem d21_22 : decode jdk_38_method_24_code 22 = .ok (.return_, 1) := by decide +kernel
theorem ef_rm_a18 (m : MethodId) (x0 : Addr) (x1 : Addr) (x2 : Addr) : entryFrame m #[(.ref x0), (.ref x1), (.ref x2), (.int (0 : Int32))] 4 = mkF m 0 #[.val (.ref x0), .val (.ref x1), .val (.ref x2), .val (.int (0 : Int32))] [] := by first | (simp [entryFrame, mkF, argsToLocals, Value.category]; done) | rfl
set_option maxRecDepth 65536 in
set_option maxHeartbeats 40000000 in
theorem rm_a18 (l : Launch) (Z : State) (a0 : Array Value) (hw : ∀ d ∈ tables_1, d.before a0 Z = true) (h0 : Heap) {lo : Nat} (ka1 : Addr) (ka2 : Addr) (de : Addr) (e0 : Addr × oD) (e1 : Addr × oD) (e2 : Addr × oD) (ka3 : Addr) (ka4 : Addr) (ka5 : Addr) (e4 : Addr × oD) (e5 : Addr × oD) (e6 : Addr × oD) (ds : oDs) (hy0 : Sta Z h0 "java/util/ArrayList" "DEFAULTCAPACITY_EMPTY_ELEMENTDATA" "[Ljava/lang/Object;" (.ref de)) (hy1 : oOld Z h0 de (.object "java/lang/Object") 0) :
    oMet l Z h0 lo (⟨"java/util/ArrayList", "add", "(Ljava/lang/Object;[Ljava/lang/Object;I)V"⟩ : MethodName) jdk_38_method_24_code 4 none [] ({ frames := 3, cells := 1, slots := 10, locals := 41 } : Room) #[(.ref ka1), (.ref ka2), (.ref de), (.int (0 : Int32))] (e0 :: e1 :: e2 :: (ka2, oO cn3 [(fk18, (.ref ka3)), (fk19, (.ref ka4)), (fk20, (.ref ka5))]) :: e4 :: e5 :: e6 :: (ka1, oO cn1 [(fk11, (.int (1 : Int32))), (fk12, (.ref de)), (fk13, (.int (0 : Int32)))]) :: ds) (fun (v : Option Value) (d : oDs) => (∃ (b33 : Addr), v = none ∧ ((b33, oA (.object "java/lang/Object") [(.ref ka2), .null, .null, .null, .null, .null, .null, .null, .null, .null]) :: e0 :: e1 :: e2 :: (ka2, oO cn3 [(fk18, (.ref ka3)), (fk19, (.ref ka4)), (fk20, (.ref ka5))]) :: e4 :: e5 :: e6 :: (ka1, oO cn1 [(fk11, (.int (1 : Int32))), (fk12, (.ref b33)), (fk13, (.int (1 : Int32)))]) :: ds) = d)) := by
  refine oMet.of_body (plainFor_of_name pn_2) ?_
  intro p e s m below meth c T B hby hml hown hnm hret
  refine W_entry (ef_rm_a18 m ka1 ka2 de) ?_
  refine W_iloadN B (hb hby d21_0) (pc' := 1) rfl rfl ?_
  refine W_aloadN B (hb hby d21_1) (pc' := 2) rfl rfl rfl ?_
  refine W_alenOld B hy1 (hb hby d21_2) (pc' := 3) rfl (z := (0 : Int32)) rfl ?_
  refine W_icmpN B (hb hby d21_3) (pc' := 6) rfl (by decide) ?_
  refine W_aloadN B (hb hby d21_6) (pc' := 7) rfl rfl rfl ?_
  refine W_private B (y := (⟨"java/util/ArrayList", "grow", "()[Ljava/lang/Object;"⟩ : MethodName)) hown (ow hw (i := 181) rfl) (ow hw (i := 182) rfl) (ow hw (i := 184) rfl) (ow hw (i := 183) rfl) (ow hw (i := 24) rfl) (ow hw (i := 185) rfl) (by decide) (a := ka1) (rm_a17 l Z a0 hw h0 ka1 _ _ _ _ _ _ _ de _ hy0 hy1) (lenOf pd_11 rfl) (hb hby d21_7) (pc' := 10) rfl (argsL := []) (rest := []) rfl (by rw [hml]; rfl) (W := 0) (oLe rfl) (j := 7) rfl (by decide) (cells' := 1) rfl (slots' := 10) rfl ?_
  intro T v_ d_ q_ B
  obtain ⟨b33, rfl, rfl⟩ := q_
  show oWin p e below Z h0 _ _ (T.setTop (mkF m 10 #[.val (.ref ka1), .val (.ref ka2), .val (.ref de), .val (.int (0 : Int32))] [(.ref b33)]))
  refine W_astoreN B (hb hby d21_10) (pc' := 11) rfl rfl (ls' := #[.val (.ref ka1), .val (.ref ka2), .val (.ref b33), .val (.int (0 : Int32))]) rfl ?_
  refine W_aloadN B (hb hby d21_11) (pc' := 12) rfl rfl rfl ?_
  refine W_iloadN B (hb hby d21_12) (pc' := 13) rfl rfl ?_
  refine W_aloadN B (hb hby d21_13) (pc' := 14) rfl rfl rfl ?_
  refine W_aastore (a0 := a0) B (hb hby d21_14) (pc' := 15) rfl (i := 0) rfl (by decide) (oLt rfl) (i2 := 4) rfl (Or.inr (ow hw (i := 196) rfl)) (ds' := ((b33, oA (.object "java/lang/Object") [(.ref ka2), .null, .null, .null, .null, .null, .null, .null, .null, .null]) :: e0 :: e1 :: e2 :: (ka2, oO cn3 [(fk18, (.ref ka3)), (fk19, (.ref ka4)), (fk20, (.ref ka5))]) :: e4 :: e5 :: e6 :: (ka1, oO cn1 [(fk11, (.int (1 : Int32))), (fk12, (.ref b33)), (fk13, (.int (0 : Int32)))]) :: ds)) rfl ?_
  intro T B
  refine W_aloadN B (hb hby d21_15) (pc' := 16) rfl rfl rfl ?_
  refine W_iloadN B (hb hby d21_16) (pc' := 17) rfl rfl ?_
  refine W_iconst B (hb hby d21_17) (pc' := 18) rfl (z := (1 : Int32)) (by decide) ?_
  refine W_iadd B (hb hby d21_18) (pc' := 19) rfl (z := (1 : Int32)) (by decide) ?_
  refine W_putfield B hown (host := "") (Or.inl (ow hw (i := 175) rfl)) Via.refl (hb hby d21_19) (pc' := 22) rfl (Or.inl (ow hw (i := 131) rfl)) (ow hw (i := 23) rfl) (ty := .int) (by decide) rfl rfl (j := 8) rfl (q := 2) rfl (ds' := ((b33, oA (.object "java/lang/Object") [(.ref ka2), .null, .null, .null, .null, .null, .null, .null, .null, .null]) :: e0 :: e1 :: e2 :: (ka2, oO cn3 [(fk18, (.ref ka3)), (fk19, (.ref ka4)), (fk20, (.ref ka5))]) :: e4 :: e5 :: e6 :: (ka1, oO cn1 [(fk11, (.int (1 : Int32))), (fk12, (.ref b33)), (fk13, (.int (1 : Int32)))]) :: ds)) rfl ?_
  intro T B
  refine W_retV B hret (hb hby d21_22) (by decide) ?_
  exact ⟨b33, rfl, rfl⟩
theorem pd_12 : parseMethodDescriptor "(Ljava/lang/Object;[Ljava/lang/Object;I)V" = some ⟨[(.object "java/lang/Object"), (.array (.object "java/lang/Object")), .int], none⟩ := by decide +kernel
theorem d20_23 : decode jdk_38_method_25_code 23 = .ok (.iconst 1, 1) := by decide +kernel
theorem d20_24 : decode jdk_38_method_25_code 24 = .ok (.ireturn, 1) := by decide +kernel
theorem ef_rm_a19 (m : MethodId) (x0 : Addr) (x1 : Addr) : entryFrame m #[(.ref x0), (.ref x1)] 2 = mkF m 0 #[.val (.ref x0), .val (.ref x1)] [] := by first | (simp [entryFrame, mkF, argsToLocals, Value.category]; done) | rfl
set_option maxRecDepth 65536 in
set_option maxHeartbeats 40000000 in
theorem rm_a19 (l : Launch) (Z : State) (a0 : Array Value) (hw : ∀ d ∈ tables_1, d.before a0 Z = true) (h0 : Heap) {lo : Nat} (ka1 : Addr) (ka2 : Addr) (e0 : Addr × oD) (e1 : Addr × oD) (e2 : Addr × oD) (ka3 : Addr) (ka4 : Addr) (ka5 : Addr) (e4 : Addr × oD) (e5 : Addr × oD) (e6 : Addr × oD) (de : Addr) (ds : oDs) (hy0 : Sta Z h0 "java/util/ArrayList" "DEFAULTCAPACITY_EMPTY_ELEMENTDATA" "[Ljava/lang/Object;" (.ref de)) (hy1 : oOld Z h0 de (.object "java/lang/Object") 0) :
    oMet l Z h0 lo (⟨"java/util/ArrayList", "add", "(Ljava/lang/Object;)Z"⟩ : MethodName) jdk_38_method_25_code 2 (some .boolean) [] ({ frames := 4, cells := 1, slots := 10, locals := 56 } : Room) #[(.ref ka1), (.ref ka2)] (e0 :: e1 :: e2 :: (ka2, oO cn3 [(fk18, (.ref ka3)), (fk19, (.ref ka4)), (fk20, (.ref ka5))]) :: e4 :: e5 :: e6 :: (ka1, oO cn1 [(fk11, (.int (0 : Int32))), (fk12, (.ref de)), (fk13, (.int (0 : Int32)))]) :: ds) (fun (v : Option Value) (d : oDs) => (∃ (b36 : Addr), v = some (.int (1 : Int32)) ∧ ((b36, oA (.object "java/lang/Object") [(.ref ka2), .null, .null, .null, .null, .null, .null, .null, .null, .null]) :: e0 :: e1 :: e2 :: (ka2, oO cn3 [(fk18, (.ref ka3)), (fk19, (.ref ka4)), (fk20, (.ref ka5))]) :: e4 :: e5 :: e6 :: (ka1, oO cn1 [(fk11, (.int (1 : Int32))), (fk12, (.ref b36)), (fk13, (.int (1 : Int32)))]) :: ds) = d)) := by
  refine oMet.of_body (plainFor_of_name pn_2) ?_
  intro p e s m below meth c T B hby hml hown hnm hret
  refine W_entry (ef_rm_a19 m ka1 ka2) ?_
  refine W_aloadN B (hb hby d20_0) (pc' := 1) rfl rfl rfl ?_
  refine W_dup B (hb hby d20_1) (pc' := 2) rfl rfl ?_
  refine W_getfield B hown (host := "") (Or.inl (ow hw (i := 174) rfl)) (Via.of (ow hw (i := 116) rfl)) (hb hby d20_2) (pc' := 5) rfl (j := 7) rfl (q := 0) rfl ?_
  intro T B
  refine W_iconst B (hb hby d20_5) (pc' := 6) rfl (z := (1 : Int32)) (by decide) ?_
  refine W_iadd B (hb hby d20_6) (pc' := 7) rfl (z := (1 : Int32)) (by decide) ?_
  refine W_putfield B hown (host := "") (Or.inl (ow hw (i := 174) rfl)) (Via.of (ow hw (i := 116) rfl)) (hb hby d20_7) (pc' := 10) rfl (Or.inl (ow hw (i := 42) rfl)) (ow hw (i := 23) rfl) (ty := .int) (by decide) rfl rfl (j := 7) rfl (q := 0) rfl (ds' := (e0 :: e1 :: e2 :: (ka2, oO cn3 [(fk18, (.ref ka3)), (fk19, (.ref ka4)), (fk20, (.ref ka5))]) :: e4 :: e5 :: e6 :: (ka1, oO cn1 [(fk11, (.int (1 : Int32))), (fk12, (.ref de)), (fk13, (.int (0 : Int32)))]) :: ds)) rfl ?_
  intro T B
  refine W_aloadN B (hb hby d20_10) (pc' := 11) rfl rfl rfl ?_
  refine W_aloadN B (hb hby d20_11) (pc' := 12) rfl rfl rfl ?_
  refine W_aloadN B (hb hby d20_12) (pc' := 13) rfl rfl rfl ?_
  refine W_getfield B hown (host := "") (Or.inl (ow hw (i := 44) rfl)) Via.refl (hb hby d20_13) (pc' := 16) rfl (j := 7) rfl (q := 1) rfl ?_
  intro T B
  refine W_aloadN B (hb hby d20_16) (pc' := 17) rfl rfl rfl ?_
  refine W_getfield B hown (host := "") (Or.inl (ow hw (i := 175) rfl)) Via.refl (hb hby d20_17) (pc' := 20) rfl (j := 7) rfl (q := 2) rfl ?_
  intro T B
  refine W_private B (y := (⟨"java/util/ArrayList", "add", "(Ljava/lang/Object;[Ljava/lang/Object;I)V"⟩ : MethodName)) hown (ow hw (i := 176) rfl) (ow hw (i := 177) rfl) (ow hw (i := 179) rfl) (ow hw (i := 178) rfl) (ow hw (i := 24) rfl) (ow hw (i := 180) rfl) (by decide) (a := ka1) (rm_a18 l Z a0 hw h0 ka1 ka2 de _ _ _ ka3 ka4 ka5 _ _ _ _ hy0 hy1) (lenOf pd_12 rfl) (hb hby d20_20) (pc' := 23) rfl (argsL := [(.ref ka2), (.ref de), (.int (0 : Int32))]) (rest := []) rfl (by rw [hml]; rfl) (W := 0) (oLe rfl) (j := 7) rfl (by decide) (cells' := 1) rfl (slots' := 10) rfl ?_
  intro T v_ d_ q_ B
  obtain ⟨b36, rfl, rfl⟩ := q_
  show oWin p e below Z h0 _ _ (T.setTop (mkF m 23 #[.val (.ref ka1), .val (.ref ka2)] []))
  refine W_iconst B (hb hby d20_23) (pc' := 24) rfl (z := (1 : Int32)) (by decide) ?_
  refine W_retN B hret (by simp) (hb hby d20_24) (by decide) ?_
  exact ⟨b36, rfl, rfl⟩
theorem pd_13 : parseMethodDescriptor "(Ljava/lang/Object;)Z" = some ⟨[(.object "java/lang/Object")], some .boolean⟩ := by decide +kernel
theorem d13_139 : decode prog_45_method_21_code 139 = .ok (.pop, 1) := by decide +kernel
theorem d13_140 : decode prog_45_method_21_code 140 = .ok (.aload_n 2, 1) := by decide +kernel
theorem d13_141 : decode prog_45_method_21_code 141 = .ok (.instanceof 67, 3) := by decide +kernel
theorem d13_144 : decode prog_45_method_21_code 144 = .ok (.ifCond .eq 33, 3) := by decide +kernel
theorem d13_147 : decode prog_45_method_21_code 147 = .ok (.aload_n 2, 1) := by decide +kernel
theorem d13_148 : decode prog_45_method_21_code 148 = .ok (.checkcast 67, 3) := by decide +kernel
theorem d13_151 : decode prog_45_method_21_code 151 = .ok (.astore_n 3, 1) := by decide +kernel
theorem d13_152 : decode prog_45_method_21_code 152 = .ok (.iconst 0, 1) := by decide +kernel
theorem d13_153 : decode prog_45_method_21_code 153 = .ok (.istore 4, 2) := by decide +kernel
theorem d13_155 : decode prog_45_method_21_code 155 = .ok (.iload 4, 2) := by decide +kernel
theorem d13_157 : decode prog_45_method_21_code 157 = .ok (.aload_n 0, 1) := by decide +kernel
theorem d13_158 : decode prog_45_method_21_code 158 = .ok (.getfield 92, 3) := by decide +kernel
theorem d13_161 : decode prog_45_method_21_code 161 = .ok (.if_icmp .ge 16, 3) := by decide +kernel
theorem d13_177 : decode prog_45_method_21_code 177 = .ok (.aload_n 2, 1) := by decide +kernel
theorem d13_178 : decode prog_45_method_21_code 178 = .ok (.areturn, 1) := by decide +kernel
theorem ef_rm_a20 (m : MethodId) (x0 : Addr) (x1 : Addr) : entryFrame m #[(.ref x0), (.ref x1)] 5 = mkF m 0 #[.val (.ref x0), .val (.ref x1), .unset, .unset, .unset] [] := by first | (simp [entryFrame, mkF, argsToLocals, Value.category]; done) | rfl
theorem pn_9 : plainName "com/example/tanglemark/tanglemark/datalog/Relation" = true := by first | (simp [plainName, overriddenIn]; done) | decide +kernel
set_option maxRecDepth 65536 in
set_option maxHeartbeats 40000000 in
theorem rm_a20 (l : Launch) (Z : State) (a0 : Array Value) (hw : ∀ d ∈ tables_1, d.before a0 Z = true) (h0 : Heap) {lo : Nat} (ka1 : Addr) (ka2 : Addr) (e1 : Addr × oD) (ka3 : Addr) (de : Addr) (ka4 : Addr) (ka5 : Addr) (ds : oDs) (hy0 : Sta Z h0 "java/util/ArrayList" "DEFAULTCAPACITY_EMPTY_ELEMENTDATA" "[Ljava/lang/Object;" (.ref de)) (hy1 : oOld Z h0 de (.object "java/lang/Object") 0) :
    oMet l Z h0 lo (⟨"com/example/tanglemark/tanglemark/datalog/Relation", "index", "([I)Lcom/example/tanglemark/tanglemark/datalog/Relation$Index;"⟩ : MethodName) prog_45_method_21_code 5 (some (.object "com/example/tanglemark/tanglemark/datalog/Relation$Index")) [] ({ frames := 5, cells := 6, slots := 52, locals := 69 } : Room) #[(.ref ka1), (.ref ka2)] ((ka2, oA .int [o0, (.int (1 : Int32)), (.int (2 : Int32))]) :: e1 :: (ka3, oO cn1 [(fk11, (.int (0 : Int32))), (fk12, (.ref de)), (fk13, (.int (0 : Int32)))]) :: (ka1, oO cn0 [(fk0, (.ref ka3)), (fk1, (.ref ka4)), (fk2, (.int (3 : Int32))), (fk3, (.int (2147483639 : Int32))), (fk4, (.int (1073741824 : Int32))), (fk5, (.ref ka5)), (fk6, (.ref ka2)), (fk7, .null), (fk8, (.int (0 : Int32))), (fk9, (.int (0 : Int32))), (fk10, .null)]) :: ds) (fun (v : Option Value) (d : oDs) => (∃ (b40 : Addr) (b50 : Addr) (b44 : Addr) (b45 : Addr) (b41 : Addr) (b39 : Addr), v = some (.ref b40) ∧ ((b50, oA (.object "java/lang/Object") [(.ref b40), .null, .null, .null, .null, .null, .null, .null, .null, .null]) :: (b44, oA .int [o0, o0, o0, o0, o0, o0, o0, o0, o0, o0, o0, o0, o0, o0, o0, o0]) :: (b45, oA .int [(.int (-1 : Int32)), (.int (-1 : Int32)), (.int (-1 : Int32)), (.int (-1 : Int32)), (.int (-1 : Int32)), (.int (-1 : Int32)), (.int (-1 : Int32)), (.int (-1 : Int32)), (.int (-1 : Int32)), (.int (-1 : Int32)), (.int (-1 : Int32)), (.int (-1 : Int32)), (.int (-1 : Int32)), (.int (-1 : Int32)), (.int (-1 : Int32)), (.int (-1 : Int32))]) :: (b41, oA .int [o0, (.int (1 : Int32)), (.int (2 : Int32))]) :: (b40, oO cn3 [(fk18, (.ref b41)), (fk19, (.ref b45)), (fk20, (.ref b44))]) :: (b39, oO cn2 [(fk14, (.ref ka3)), (fk15, (.int (-1 : Int32))), (fk16, (.int (0 : Int32))), (fk17, (.int (0 : Int32)))]) :: (ka2, oA .int [o0, (.int (1 : Int32)), (.int (2 : Int32))]) :: e1 :: (ka3, oO cn1 [(fk11, (.int (1 : Int32))), (fk12, (.ref b50)), (fk13, (.int (1 : Int32)))]) :: (ka1, oO cn0 [(fk0, (.ref ka3)), (fk1, (.ref ka4)), (fk2, (.int (3 : Int32))), (fk3, (.int (2147483639 : Int32))), (fk4, (.int (1073741824 : Int32))), (fk5, (.ref ka5)), (fk6, (.ref ka2)), (fk7, .null), (fk8, (.int (0 : Int32))), (fk9, (.int (0 : Int32))), (fk10, .null)]) :: ds) = d)) := by
  refine oMet.of_body (plainFor_of_name pn_9) ?_
  intro p e s m below meth c T B hby hml hown hnm hret
  refine W_entry (ef_rm_a20 m ka1 ka2) ?_
  refine W_aloadN B (hb hby d13_0) (pc' := 1) rfl rfl rfl ?_
  refine W_getfield B hown (host := "") (Or.inl (ow hw (i := 46) rfl)) Via.refl (hb hby d13_1) (pc' := 4) rfl (j := 3) rfl (q := 0) rfl ?_
  intro T B
  refine W_iface B (xi := (⟨"java/util/List", "iterator", "()Ljava/util/Iterator;"⟩ : MethodName)) (y := (⟨"java/util/ArrayList", "iterator", "()Ljava/util/Iterator;"⟩ : MethodName)) hown (ow hw (i := 94) rfl) (ow hw (i := 95) rfl) (ow hw (i := 96) rfl) (ow hw (i := 97) rfl) (ow hw (i := 98) rfl) (ow hw (i := 99) rfl) (ow hw (i := 100) rfl) (ow hw (i := 101) rfl) (ow hw (i := 24) rfl) (ow hw (i := 102) rfl) (by decide) (a := ka3) (rm_a10 l Z a0 hw h0 ka3 _ _ de _ ) (lenOf pd_6 rfl) (hb hby d13_4) (pc' := 9) rfl (argsL := []) (rest := []) rfl (by rw [hml]; rfl) (W := 0) (oLe rfl) (j := 2) rfl (by decide) (cells' := 1) rfl (slots' := 4) rfl ?_
  intro T v_ d_ q_ B
  obtain ⟨b39, rfl, rfl⟩ := q_
  show oWin p e below Z h0 _ _ (T.setTop (mkF m 9 #[.val (.ref ka1), .val (.ref ka2), .unset, .unset, .unset] [(.ref b39)]))
  refine W_astoreN B (hb hby d13_9) (pc' := 10) rfl rfl (ls' := #[.val (.ref ka1), .val (.ref ka2), .val (.ref b39), .unset, .unset]) rfl ?_
  refine W_aloadN B (hb hby d13_10) (pc' := 11) rfl rfl rfl ?_
  refine W_iface B (xi := (⟨"java/util/Iterator", "hasNext", "()Z"⟩ : MethodName)) (y := (⟨"java/util/ArrayList$Itr", "hasNext", "()Z"⟩ : MethodName)) hown (ow hw (i := 119) rfl) (ow hw (i := 120) rfl) (ow hw (i := 121) rfl) (ow hw (i := 122) rfl) (ow hw (i := 123) rfl) (ow hw (i := 124) rfl) (ow hw (i := 125) rfl) (ow hw (i := 126) rfl) (ow hw (i := 105) rfl) (ow hw (i := 127) rfl) (by decide) (a := b39) (rm_a11 l Z a0 hw h0 b39 ka3 _ _ de _ ) (lenOf pd_7 rfl) (hb hby d13_11) (pc' := 16) rfl (argsL := []) (rest := []) rfl (by rw [hml]; rfl) (W := 0) (oLe rfl) (j := 0) rfl (by decide) (cells' := 1) rfl (slots' := 4) rfl ?_
  intro T v_ d_ q_ B
  obtain ⟨rfl, rfl⟩ := q_
  show oWin p e below Z h0 _ _ (T.setTop (mkF m 16 #[.val (.ref ka1), .val (.ref ka2), .val (.ref b39), .unset, .unset] [(.int (0 : Int32))]))
  refine W_ifY B (hb hby d13_16) (by decide) (pc' := 45) (by decide) (by decide) ?_
  refine W_aloadN B (hb hby d13_45) (pc' := 46) rfl rfl rfl ?_
  refine W_getfield B hown (host := "") (Or.inl (ow hw (i := 132) rfl)) Via.refl (hb hby d13_46) (pc' := 49) rfl (j := 4) rfl (q := 7) rfl ?_
  intro T B
  refine W_ifnullY B (hb hby d13_49) (by decide) (pc' := 70) (by decide) ?_
  refine W_aloadN B (hb hby d13_70) (pc' := 71) rfl rfl rfl ?_
  refine W_getfield B hown (host := "") (Or.inl (ow hw (i := 132) rfl)) Via.refl (hb hby d13_71) (pc' := 74) rfl (j := 4) rfl (q := 7) rfl ?_
  intro T B
  refine W_ifnullY B (hb hby d13_74) (by decide) (pc' := 92) (by decide) ?_
  refine W_aloadN B (hb hby d13_92) (pc' := 93) rfl rfl rfl ?_
  refine W_getfield B hown (host := "") (Or.inl (ow hw (i := 134) rfl)) Via.refl (hb hby d13_93) (pc' := 96) rfl (j := 4) rfl (q := 8) rfl ?_
  intro T B
  refine W_ifY B (hb hby d13_96) (by decide) (pc' := 114) (by decide) (by decide) ?_
  refine W_new B hown (ow hw (i := 136) rfl) (ow hw (i := 137) rfl) (ow hw (i := 138) rfl) (hb hby d13_114) (pc' := 117) rfl (by decide) (cells' := 2) rfl (slots' := 7) rfl (fs := [(fk18, .null), (fk19, .null), (fk20, .null)]) (oAll_cons ⟨Or.inr (ow hw (i := 158) rfl), (.array .int), by decide, rfl⟩ (oAll_cons ⟨Or.inl (ow hw (i := 160) rfl), (.array .int), by decide, rfl⟩ (oAll_cons ⟨Or.inl (ow hw (i := 165) rfl), (.array .int), by decide, rfl⟩ oAll_nil))) (by decide) ?_
  intro T b40 B
  refine W_dup B (hb hby d13_117) (pc' := 118) rfl rfl ?_
  refine W_aloadN B (hb hby d13_118) (pc' := 119) rfl rfl rfl ?_
  refine W_clone B hown (ow hw (i := 139) rfl) (ow hw (i := 140) rfl) (ow hw (i := 144) rfl) (ow hw (i := 142) rfl) (ow hw (i := 143) rfl) (ow hw (i := 145) rfl) (by decide +kernel) (j := 2) rfl (hb hby d13_119) (pc' := 122) rfl (by rw [hml]; rfl) (W := 2) (oLe rfl) (cap := 3) (oLe rfl) (by decide) (cells' := 3) rfl (slots' := 10) rfl ?_
  intro T b41 B
  refine W_castArr B hown (ow hw (i := 146) rfl) (by decide +kernel) (j := 0) rfl (hb hby d13_122) (pc' := 125) rfl ?_
  intro T B
  refine W_initR B (y := (⟨"com/example/tanglemark/tanglemark/datalog/Relation$Chains", "<init>", "([I)V"⟩ : MethodName)) hown rfl (ow hw (i := 148) rfl) (ow hw (i := 149) rfl) (ow hw (i := 138) rfl) (ow hw (i := 150) rfl) (by decide) (a := b40) (rm_a14 l Z a0 hw h0 b40 b41 _ _ ) (lenOf pd_8 rfl) (hb hby d13_125) (pc' := 128) rfl (argsL := [(.ref b41)]) (rest := [(.ref b40)]) rfl (by rw [hml]; rfl) (W := 1) (oLe rfl) (by decide) (cells' := 5) rfl (slots' := 42) rfl ?_
  intro T v_ d_ q_ B
  obtain ⟨b44, b45, rfl, rfl⟩ := q_
  show oWin p e below Z h0 _ _ (T.setTop (mkF m 128 #[.val (.ref ka1), .val (.ref ka2), .val (.ref b39), .unset, .unset] [(.ref b40)]))
  refine W_astoreN B (hb hby d13_128) (pc' := 129) rfl rfl (ls' := #[.val (.ref ka1), .val (.ref ka2), .val (.ref b40), .unset, .unset]) rfl ?_
  refine W_aloadN B (hb hby d13_129) (pc' := 130) rfl rfl rfl ?_
  refine W_getfield B hown (host := "") (Or.inl (ow hw (i := 46) rfl)) Via.refl (hb hby d13_130) (pc' := 133) rfl (j := 8) rfl (q := 0) rfl ?_
  intro T B
  refine W_aloadN B (hb hby d13_133) (pc' := 134) rfl rfl rfl ?_
  refine W_iface B (xi := (⟨"java/util/List", "add", "(Ljava/lang/Object;)Z"⟩ : MethodName)) (y := (⟨"java/util/ArrayList", "add", "(Ljava/lang/Object;)Z"⟩ : MethodName)) hown (ow hw (i := 166) rfl) (ow hw (i := 167) rfl) (ow hw (i := 168) rfl) (ow hw (i := 169) rfl) (ow hw (i := 170) rfl) (ow hw (i := 171) rfl) (ow hw (i := 172) rfl) (ow hw (i := 101) rfl) (ow hw (i := 24) rfl) (ow hw (i := 173) rfl) (by decide) (a := ka3) (rm_a19 l Z a0 hw h0 ka3 b40 _ _ _ b41 b45 b44 _ _ _ de _ hy0 hy1) (lenOf pd_13 rfl) (hb hby d13_134) (pc' := 139) rfl (argsL := [(.ref b40)]) (rest := []) rfl (by rw [hml]; rfl) (W := 0) (oLe rfl) (j := 7) rfl (by decide) (cells' := 6) rfl (slots' := 52) rfl ?_
  intro T v_ d_ q_ B
  obtain ⟨b50, rfl, rfl⟩ := q_
  show oWin p e below Z h0 _ _ (T.setTop (mkF m 139 #[.val (.ref ka1), .val (.ref ka2), .val (.ref b40), .unset, .unset] [(.int (1 : Int32))]))
  refine W_pop B (hb hby d13_139) (pc' := 140) rfl rfl ?_
  refine W_aloadN B (hb hby d13_140) (pc' := 141) rfl rfl rfl ?_
  refine W_instY (a0 := a0) B hown (ow hw (i := 136) rfl) (j := 4) rfl (Or.inl rfl) (hb hby d13_141) (pc' := 144) rfl ?_
  intro T B
  refine W_ifN B (hb hby d13_144) (pc' := 147) rfl (by decide) ?_
  refine W_aloadN B (hb hby d13_147) (pc' := 148) rfl rfl rfl ?_
  refine W_castObj (a0 := a0) B hown (ow hw (i := 136) rfl) (j := 4) rfl (Or.inl rfl) (hb hby d13_148) (pc' := 151) rfl ?_
  intro T B
  refine W_astoreN B (hb hby d13_151) (pc' := 152) rfl rfl (ls' := #[.val (.ref ka1), .val (.ref ka2), .val (.ref b40), .val (.ref b40), .unset]) rfl ?_
  refine W_iconst B (hb hby d13_152) (pc' := 153) rfl (z := (0 : Int32)) (by decide) ?_
  refine W_istore B (hb hby d13_153) (pc' := 155) rfl (v := (0 : Int32)) rfl (ls' := #[.val (.ref ka1), .val (.ref ka2), .val (.ref b40), .val (.ref b40), .val (.int (0 : Int32))]) rfl ?_
  refine W_iload B (hb hby d13_155) (pc' := 157) rfl rfl ?_
  refine W_aloadN B (hb hby d13_157) (pc' := 158) rfl rfl rfl ?_
  refine W_getfield B hown (host := "") (Or.inl (ow hw (i := 198) rfl)) Via.refl (hb hby d13_158) (pc' := 161) rfl (j := 9) rfl (q := 9) rfl ?_
  intro T B
  refine W_icmpY B (hb hby d13_161) (by decide) (pc' := 177) (by decide) (by decide) ?_
  refine W_aloadN B (hb hby d13_177) (pc' := 178) rfl rfl rfl ?_
  refine W_retA B hret rfl rfl (hb hby d13_178) (by decide) ?_
  exact ⟨b40, b50, b44, b45, b41, b39, rfl, rfl⟩
theorem pd_14 : parseMethodDescriptor "([I)Lcom/example/tanglemark/tanglemark/datalog/Relation$Index;" = some ⟨[(.array .int)], some (.object "com/example/tanglemark/tanglemark/datalog/Relation$Index")⟩ := by decide +kernel
theorem d2_80 : decode prog_45_method_2_code 80 = .ok (.checkcast 67, 3) := by decide +kernel
theorem d2_83 : decode prog_45_method_2_code 83 = .ok (.putfield 69, 3) := by decide +kernel
theorem d2_86 : decode prog_45_method_2_code 86 = .ok (.return_, 1) := by decide +kernel
theorem ef_rm_a21 (m : MethodId) (x0 : Addr) (x1 : Addr) : entryFrame m #[(.ref x0), (.ref x1), (.int (3 : Int32)), (.int (2147483639 : Int32))] 4 = mkF m 0 #[.val (.ref x0), .val (.ref x1), .val (.int (3 : Int32)), .val (.int (2147483639 : Int32))] [] := by first | (simp [entryFrame, mkF, argsToLocals, Value.category]; done) | rfl
set_option maxRecDepth 65536 in
set_option maxHeartbeats 40000000 in
theorem rm_a21 (l : Launch) (Z : State) (a0 : Array Value) (hw : ∀ d ∈ tables_1, d.before a0 Z = true) (h0 : Heap) {lo : Nat} (ka1 : Addr) (ka2 : Addr) (ds : oDs) (de : Addr) (la : Addr) (hy0 : Sta Z h0 "java/util/ArrayList" "DEFAULTCAPACITY_EMPTY_ELEMENTDATA" "[Ljava/lang/Object;" (.ref de)) (hy1 : oLam Z h0 xI 63 sgm la) (hy2 : oOld Z h0 de (.object "java/lang/Object") 0) :
    oMet l Z h0 lo (⟨"com/example/tanglemark/tanglemark/datalog/Relation", "<init>", "(Ljava/lang/String;II)V"⟩ : MethodName) prog_45_method_2_code 4 none [] ({ frames := 6, cells := 9, slots := 106, locals := 3073 } : Room) #[(.ref ka1), (.ref ka2), (.int (3 : Int32)), (.int (2147483639 : Int32))] ((ka1, oO cn0 [(fk0, .null), (fk1, .null), (fk2, (.int (0 : Int32))), (fk3, (.int (0 : Int32))), (fk4, (.int (0 : Int32))), (fk5, .null), (fk6, .null), (fk7, .null), (fk8, (.int (0 : Int32))), (fk9, (.int (0 : Int32))), (fk10, .null)]) :: ds) (fun (v : Option Value) (d : oDs) => (∃ (b74 : Addr) (b73 : Addr) (b75 : Addr) (b76 : Addr) (b77 : Addr) (b78 : Addr) (b57 : Addr) (b59 : Addr) (b58 : Addr), v = none ∧ ((b74, oA (.object "java/lang/Object") [(.ref b73), .null, .null, .null, .null, .null, .null, .null, .null, .null]) :: (b75, oA .int [o0, o0, o0, o0, o0, o0, o0, o0, o0, o0, o0, o0, o0, o0, o0, o0]) :: (b76, oA .int [(.int (-1 : Int32)), (.int (-1 : Int32)), (.int (-1 : Int32)), (.int (-1 : Int32)), (.int (-1 : Int32)), (.int (-1 : Int32)), (.int (-1 : Int32)), (.int (-1 : Int32)), (.int (-1 : Int32)), (.int (-1 : Int32)), (.int (-1 : Int32)), (.int (-1 : Int32)), (.int (-1 : Int32)), (.int (-1 : Int32)), (.int (-1 : Int32)), (.int (-1 : Int32))]) :: (b77, oA .int [o0, (.int (1 : Int32)), (.int (2 : Int32))]) :: (b73, oO cn3 [(fk18, (.ref b77)), (fk19, (.ref b76)), (fk20, (.ref b75))]) :: (b78, oO cn2 [(fk14, (.ref b57)), (fk15, (.int (-1 : Int32))), (fk16, (.int (0 : Int32))), (fk17, (.int (0 : Int32)))]) :: (b59, oA .int [o0, (.int (1 : Int32)), (.int (2 : Int32))]) :: (b58, oA .int [o0, o0, o0, o0, o0, o0, o0, o0, o0, o0, o0, o0, o0, o0, o0, o0, o0, o0, o0, o0, o0, o0, o0, o0, o0, o0, o0, o0, o0, o0, o0, o0, o0, o0, o0, o0, o0, o0, o0, o0, o0, o0, o0, o0, o0, o0, o0, o0]) :: (b57, oO cn1 [(fk11, (.int (1 : Int32))), (fk12, (.ref b74)), (fk13, (.int (1 : Int32)))]) :: (ka1, oO cn0 [(fk0, (.ref b57)), (fk1, (.ref ka2)), (fk2, (.int (3 : Int32))), (fk3, (.int (2147483639 : Int32))), (fk4, (.int (1073741824 : Int32))), (fk5, (.ref b58)), (fk6, (.ref b59)), (fk7, .null), (fk8, (.int (0 : Int32))), (fk9, (.int (0 : Int32))), (fk10, (.ref b73))]) :: ds) = d)) := by
  refine oMet.of_bodyN (plainFor_of_name pn_9) ?_
  intro p e s m below meth c T B hby hml hown hnm hret hnamed
  refine W_entry (ef_rm_a21 m ka1 ka2) ?_
  refine W_aloadN B (hb hby d2_0) (pc' := 1) rfl rfl rfl ?_
  refine W_initO B hown (ow hw (i := 19) rfl) (ow hw (i := 20) rfl) (ow hw (i := 21) rfl) (hb hby d2_1) (pc' := 4) rfl (by rw [hml]; rfl) (W := 0) (oLe rfl) (by decide) ?_
  intro T B
  refine W_aloadN B (hb hby d2_4) (pc' := 5) rfl rfl rfl ?_
  refine W_new B hown (ow hw (i := 22) rfl) (ow hw (i := 23) rfl) (ow hw (i := 24) rfl) (hb hby d2_5) (pc' := 8) rfl (by decide) (cells' := 1) rfl (slots' := 3) rfl (fs := [(fk11, (.int (0 : Int32))), (fk12, .null), (fk13, (.int (0 : Int32)))]) (oAll_cons ⟨Or.inl (ow hw (i := 42) rfl), .int, by decide, rfl⟩ (oAll_cons ⟨Or.inl (ow hw (i := 45) rfl), (.array (.object "java/lang/Object")), by decide, rfl⟩ (oAll_cons ⟨Or.inl (ow hw (i := 131) rfl), .int, by decide, rfl⟩ oAll_nil))) (by decide) ?_
  intro T b57 B
  refine W_dup B (hb hby d2_8) (pc' := 9) rfl rfl ?_
  refine W_init B (y := (⟨"java/util/ArrayList", "<init>", "()V"⟩ : MethodName)) hown rfl (ow hw (i := 25) rfl) (ow hw (i := 26) rfl) (ow hw (i := 24) rfl) (ow hw (i := 27) rfl) (by decide) (a := b57) (rm_a3 l Z a0 hw h0 b57 _ de hy0) (lenOf pd_0 rfl) (hb hby d2_9) (pc' := 12) rfl (argsL := []) (rest := [(.ref b57), (.ref ka1)]) rfl (by rw [hml]; rfl) (W := 2) (oLe rfl) (by decide) (cells' := 1) rfl (slots' := 3) rfl ?_
  intro T v_ d_ q_ B
  obtain ⟨rfl, rfl⟩ := q_
  show oWin p e below Z h0 _ _ (T.setTop (mkF m 12 #[.val (.ref ka1), .val (.ref ka2), .val (.int (3 : Int32)), .val (.int (2147483639 : Int32))] [(.ref b57), (.ref ka1)]))
  refine W_putfield B hown (host := "") (Or.inl (ow hw (i := 46) rfl)) Via.refl (hb hby d2_12) (pc' := 15) rfl (Or.inr ⟨(ow hw (i := 47) rfl), rfl, hnm⟩) (ow hw (i := 2) rfl) (ty := (.object "java/util/List")) (by decide) rfl rfl (j := 1) rfl (q := 0) rfl (ds' := ((b57, oO cn1 [(fk11, (.int (0 : Int32))), (fk12, (.ref de)), (fk13, (.int (0 : Int32)))]) :: (ka1, oO cn0 [(fk0, (.ref b57)), (fk1, .null), (fk2, (.int (0 : Int32))), (fk3, (.int (0 : Int32))), (fk4, (.int (0 : Int32))), (fk5, .null), (fk6, .null), (fk7, .null), (fk8, (.int (0 : Int32))), (fk9, (.int (0 : Int32))), (fk10, .null)]) :: ds)) rfl ?_
  intro T B
  refine W_aloadN B (hb hby d2_15) (pc' := 16) rfl rfl rfl ?_
  refine W_aloadN B (hb hby d2_16) (pc' := 17) rfl rfl rfl ?_
  refine W_putfield B hown (host := "") (Or.inl (ow hw (i := 48) rfl)) Via.refl (hb hby d2_17) (pc' := 20) rfl (Or.inr ⟨(ow hw (i := 49) rfl), rfl, hnm⟩) (ow hw (i := 2) rfl) (ty := (.object "java/lang/String")) (by decide) rfl rfl (j := 1) rfl (q := 1) rfl (ds' := ((b57, oO cn1 [(fk11, (.int (0 : Int32))), (fk12, (.ref de)), (fk13, (.int (0 : Int32)))]) :: (ka1, oO cn0 [(fk0, (.ref b57)), (fk1, (.ref ka2)), (fk2, (.int (0 : Int32))), (fk3, (.int (0 : Int32))), (fk4, (.int (0 : Int32))), (fk5, .null), (fk6, .null), (fk7, .null), (fk8, (.int (0 : Int32))), (fk9, (.int (0 : Int32))), (fk10, .null)]) :: ds)) rfl ?_
  intro T B
  refine W_aloadN B (hb hby d2_20) (pc' := 21) rfl rfl rfl ?_
  refine W_iloadN B (hb hby d2_21) (pc' := 22) rfl rfl ?_
  refine W_putfield B hown (host := "") (Or.inl (ow hw (i := 50) rfl)) Via.refl (hb hby d2_22) (pc' := 25) rfl (Or.inr ⟨(ow hw (i := 51) rfl), rfl, hnm⟩) (ow hw (i := 2) rfl) (ty := .int) (by decide) rfl rfl (j := 1) rfl (q := 2) rfl (ds' := ((b57, oO cn1 [(fk11, (.int (0 : Int32))), (fk12, (.ref de)), (fk13, (.int (0 : Int32)))]) :: (ka1, oO cn0 [(fk0, (.ref b57)), (fk1, (.ref ka2)), (fk2, (.int (3 : Int32))), (fk3, (.int (0 : Int32))), (fk4, (.int (0 : Int32))), (fk5, .null), (fk6, .null), (fk7, .null), (fk8, (.int (0 : Int32))), (fk9, (.int (0 : Int32))), (fk10, .null)]) :: ds)) rfl ?_
  intro T B
  refine W_aloadN B (hb hby d2_25) (pc' := 26) rfl rfl rfl ?_
  refine W_iloadN B (hb hby d2_26) (pc' := 27) rfl rfl ?_
  refine W_putfield B hown (host := "") (Or.inl (ow hw (i := 52) rfl)) Via.refl (hb hby d2_27) (pc' := 30) rfl (Or.inr ⟨(ow hw (i := 53) rfl), rfl, hnm⟩) (ow hw (i := 2) rfl) (ty := .int) (by decide) rfl rfl (j := 1) rfl (q := 3) rfl (ds' := ((b57, oO cn1 [(fk11, (.int (0 : Int32))), (fk12, (.ref de)), (fk13, (.int (0 : Int32)))]) :: (ka1, oO cn0 [(fk0, (.ref b57)), (fk1, (.ref ka2)), (fk2, (.int (3 : Int32))), (fk3, (.int (2147483639 : Int32))), (fk4, (.int (0 : Int32))), (fk5, .null), (fk6, .null), (fk7, .null), (fk8, (.int (0 : Int32))), (fk9, (.int (0 : Int32))), (fk10, .null)]) :: ds)) rfl ?_
  intro T B
  refine W_aloadN B (hb hby d2_30) (pc' := 31) rfl rfl rfl ?_
  refine W_iloadN B (hb hby d2_31) (pc' := 32) rfl rfl ?_
  refine W_callS B (y := (⟨"java/lang/Integer", "highestOneBit", "(I)I"⟩ : MethodName)) hown (ow hw (i := 54) rfl) (ow hw (i := 55) rfl) (ow hw (i := 56) rfl) (ow hw (i := 57) rfl) (by decide) (rm_a5 l Z a0 hw h0 _ ) (lenOf pd_1 rfl) (hb hby d2_32) (pc' := 35) rfl (argsL := [(.int (2147483639 : Int32))]) (rest := [(.ref ka1)]) rfl (by rw [hml]; rfl) (W := 1) (oLe rfl) (by decide) (cells' := 1) rfl (slots' := 3) rfl ?_
  intro T v_ d_ q_ B
  obtain ⟨rfl, rfl⟩ := q_
  show oWin p e below Z h0 _ _ (T.setTop (mkF m 35 #[.val (.ref ka1), .val (.ref ka2), .val (.int (3 : Int32)), .val (.int (2147483639 : Int32))] [(.int (1073741824 : Int32)), (.ref ka1)]))
  refine W_putfield B hown (host := "") (Or.inl (ow hw (i := 63) rfl)) Via.refl (hb hby d2_35) (pc' := 38) rfl (Or.inr ⟨(ow hw (i := 64) rfl), rfl, hnm⟩) (ow hw (i := 2) rfl) (ty := .int) (by decide) rfl rfl (j := 1) rfl (q := 4) rfl (ds' := ((b57, oO cn1 [(fk11, (.int (0 : Int32))), (fk12, (.ref de)), (fk13, (.int (0 : Int32)))]) :: (ka1, oO cn0 [(fk0, (.ref b57)), (fk1, (.ref ka2)), (fk2, (.int (3 : Int32))), (fk3, (.int (2147483639 : Int32))), (fk4, (.int (1073741824 : Int32))), (fk5, .null), (fk6, .null), (fk7, .null), (fk8, (.int (0 : Int32))), (fk9, (.int (0 : Int32))), (fk10, .null)]) :: ds)) rfl ?_
  intro T B
  refine W_aloadN B (hb hby d2_38) (pc' := 39) rfl rfl rfl ?_
  refine W_bipush B (hb hby d2_39) (pc' := 41) rfl (z := (16 : Int32)) (by decide) ?_
  refine W_iloadN B (hb hby d2_41) (pc' := 42) rfl rfl ?_
  refine W_imul B (hb hby d2_42) (pc' := 43) rfl (z := (48 : Int32)) (by decide) ?_
  refine W_iloadN B (hb hby d2_43) (pc' := 44) rfl rfl ?_
  refine W_callS B (y := (⟨"java/lang/Math", "min", "(II)I"⟩ : MethodName)) hown (ow hw (i := 65) rfl) (ow hw (i := 66) rfl) (ow hw (i := 67) rfl) (ow hw (i := 68) rfl) (by decide) (rm_a6 l Z a0 hw h0 _ ) (lenOf pd_2 rfl) (hb hby d2_44) (pc' := 47) rfl (argsL := [(.int (48 : Int32)), (.int (2147483639 : Int32))]) (rest := [(.ref ka1)]) rfl (by rw [hml]; rfl) (W := 1) (oLe rfl) (by decide) (cells' := 1) rfl (slots' := 3) rfl ?_
  intro T v_ d_ q_ B
  obtain ⟨rfl, rfl⟩ := q_
  show oWin p e below Z h0 _ _ (T.setTop (mkF m 47 #[.val (.ref ka1), .val (.ref ka2), .val (.int (3 : Int32)), .val (.int (2147483639 : Int32))] [(.int (48 : Int32)), (.ref ka1)]))
  refine W_newarray B (ow hw (i := 0) rfl) (hb hby d2_47) (pc' := 49) rfl (by decide) (cap := 48) (by decide) (by decide) (cells' := 2) rfl (slots' := 51) rfl (vs := [(.int (0 : Int32)), (.int (0 : Int32)), (.int (0 : Int32)), (.int (0 : Int32)), (.int (0 : Int32)), (.int (0 : Int32)), (.int (0 : Int32)), (.int (0 : Int32)), (.int (0 : Int32)), (.int (0 : Int32)), (.int (0 : Int32)), (.int (0 : Int32)), (.int (0 : Int32)), (.int (0 : Int32)), (.int (0 : Int32)), (.int (0 : Int32)), (.int (0 : Int32)), (.int (0 : Int32)), (.int (0 : Int32)), (.int (0 : Int32)), (.int (0 : Int32)), (.int (0 : Int32)), (.int (0 : Int32)), (.int (0 : Int32)), (.int (0 : Int32)), (.int (0 : Int32)), (.int (0 : Int32)), (.int (0 : Int32)), (.int (0 : Int32)), (.int (0 : Int32)), (.int (0 : Int32)), (.int (0 : Int32)), (.int (0 : Int32)), (.int (0 : Int32)), (.int (0 : Int32)), (.int (0 : Int32)), (.int (0 : Int32)), (.int (0 : Int32)), (.int (0 : Int32)), (.int (0 : Int32)), (.int (0 : Int32)), (.int (0 : Int32)), (.int (0 : Int32)), (.int (0 : Int32)), (.int (0 : Int32)), (.int (0 : Int32)), (.int (0 : Int32)), (.int (0 : Int32))]) rfl (ty := .int) rfl ?_
  intro T b58 B
  refine W_putfield B hown (host := "") (Or.inl (ow hw (i := 69) rfl)) Via.refl (hb hby d2_49) (pc' := 52) rfl (Or.inl (ow hw (i := 70) rfl)) (ow hw (i := 2) rfl) (ty := (.array .int)) (by decide) rfl rfl (j := 2) rfl (q := 5) rfl (ds' := ((b58, oA .int [o0, o0, o0, o0, o0, o0, o0, o0, o0, o0, o0, o0, o0, o0, o0, o0, o0, o0, o0, o0, o0, o0, o0, o0, o0, o0, o0, o0, o0, o0, o0, o0, o0, o0, o0, o0, o0, o0, o0, o0, o0, o0, o0, o0, o0, o0, o0, o0]) :: (b57, oO cn1 [(fk11, (.int (0 : Int32))), (fk12, (.ref de)), (fk13, (.int (0 : Int32)))]) :: (ka1, oO cn0 [(fk0, (.ref b57)), (fk1, (.ref ka2)), (fk2, (.int (3 : Int32))), (fk3, (.int (2147483639 : Int32))), (fk4, (.int (1073741824 : Int32))), (fk5, (.ref b58)), (fk6, .null), (fk7, .null), (fk8, (.int (0 : Int32))), (fk9, (.int (0 : Int32))), (fk10, .null)]) :: ds)) rfl ?_
  intro T B
  refine W_aloadN B (hb hby d2_52) (pc' := 53) rfl rfl rfl ?_
  refine W_iloadN B (hb hby d2_53) (pc' := 54) rfl rfl ?_
  refine W_newarray B (ow hw (i := 0) rfl) (hb hby d2_54) (pc' := 56) rfl (by decide) (cap := 3) (by decide) (by decide) (cells' := 3) rfl (slots' := 54) rfl (vs := [(.int (0 : Int32)), (.int (0 : Int32)), (.int (0 : Int32))]) rfl (ty := .int) rfl ?_
  intro T b59 B
  refine W_putfield B hown (host := "") (Or.inl (ow hw (i := 71) rfl)) Via.refl (hb hby d2_56) (pc' := 59) rfl (Or.inr ⟨(ow hw (i := 72) rfl), rfl, hnm⟩) (ow hw (i := 2) rfl) (ty := (.array .int)) (by decide) rfl rfl (j := 3) rfl (q := 6) rfl (ds' := ((b59, oA .int [o0, o0, o0]) :: (b58, oA .int [o0, o0, o0, o0, o0, o0, o0, o0, o0, o0, o0, o0, o0, o0, o0, o0, o0, o0, o0, o0, o0, o0, o0, o0, o0, o0, o0, o0, o0, o0, o0, o0, o0, o0, o0, o0, o0, o0, o0, o0, o0, o0, o0, o0, o0, o0, o0, o0]) :: (b57, oO cn1 [(fk11, (.int (0 : Int32))), (fk12, (.ref de)), (fk13, (.int (0 : Int32)))]) :: (ka1, oO cn0 [(fk0, (.ref b57)), (fk1, (.ref ka2)), (fk2, (.int (3 : Int32))), (fk3, (.int (2147483639 : Int32))), (fk4, (.int (1073741824 : Int32))), (fk5, (.ref b58)), (fk6, (.ref b59)), (fk7, .null), (fk8, (.int (0 : Int32))), (fk9, (.int (0 : Int32))), (fk10, .null)]) :: ds)) rfl ?_
  intro T B
  refine W_aloadN B (hb hby d2_59) (pc' := 60) rfl rfl rfl ?_
  refine W_getfield B hown (host := "") (Or.inl (ow hw (i := 71) rfl)) Via.refl (hb hby d2_60) (pc' := 63) rfl (j := 3) rfl (q := 6) rfl ?_
  intro T B
  refine W_indy B hy1 hnamed (hb hby d2_63) (pc' := 68) rfl (by rw [hml]; rfl) (oLe rfl) ?_
  refine W_callS B (y := (⟨"java/util/Arrays", "setAll", "([ILjava/util/function/IntUnaryOperator;)V"⟩ : MethodName)) hown (ow hw (i := 76) rfl) (ow hw (i := 77) rfl) (ow hw (i := 78) rfl) (ow hw (i := 79) rfl) (by decide) (rm_a8 l Z a0 hw h0 b59 la _ hy1) (lenOf pd_4 rfl) (hb hby d2_68) (pc' := 71) rfl (argsL := [(.ref b59), (.ref la)]) (rest := []) rfl (by rw [hml]; rfl) (W := 0) (oLe rfl) (by decide) (cells' := 3) rfl (slots' := 54) rfl ?_
  intro T v_ d_ q_ B
  obtain ⟨rfl, rfl⟩ := q_
  show oWin p e below Z h0 _ _ (T.setTop (mkF m 71 #[.val (.ref ka1), .val (.ref ka2), .val (.int (3 : Int32)), .val (.int (2147483639 : Int32))] []))
  refine W_aloadN B (hb hby d2_71) (pc' := 72) rfl rfl rfl ?_
  refine W_aloadN B (hb hby d2_72) (pc' := 73) rfl rfl rfl ?_
  refine W_aloadN B (hb hby d2_73) (pc' := 74) rfl rfl rfl ?_
  refine W_getfield B hown (host := "") (Or.inl (ow hw (i := 71) rfl)) Via.refl (hb hby d2_74) (pc' := 77) rfl (j := 3) rfl (q := 6) rfl ?_
  intro T B
  refine W_virtual B (y := (⟨"com/example/tanglemark/tanglemark/datalog/Relation", "index", "([I)Lcom/example/tanglemark/tanglemark/datalog/Relation$Index;"⟩ : MethodName)) (z := (⟨"com/example/tanglemark/tanglemark/datalog/Relation", "index", "([I)Lcom/example/tanglemark/tanglemark/datalog/Relation$Index;"⟩ : MethodName)) hown (ow hw (i := 89) rfl) (ow hw (i := 90) rfl) (oNotFace B (ow hw (i := 92) rfl) rfl) (ow hw (i := 92) rfl) (ow hw (i := 91) rfl) (ow hw (i := 3) rfl) (ow hw (i := 93) rfl) (by decide) (a := ka1) (rm_a20 l Z a0 hw h0 ka1 b59 _ b57 de ka2 b58 _ hy0 hy2) (lenOf pd_14 rfl) (hb hby d2_77) (pc' := 80) rfl (argsL := [(.ref b59)]) (rest := [(.ref ka1)]) rfl (by rw [hml]; rfl) (W := 1) (oLe rfl) (j := 3) rfl (by decide) (cells' := 9) rfl (slots' := 106) rfl ?_
  intro T v_ d_ q_ B
  obtain ⟨b73, b74, b75, b76, b77, b78, rfl, rfl⟩ := q_
  show oWin p e below Z h0 _ _ (T.setTop (mkF m 80 #[.val (.ref ka1), .val (.ref ka2), .val (.int (3 : Int32)), .val (.int (2147483639 : Int32))] [(.ref b73), (.ref ka1)]))
  refine W_castObj (a0 := a0) B hown (ow hw (i := 136) rfl) (j := 4) rfl (Or.inl rfl) (hb hby d2_80) (pc' := 83) rfl ?_
  intro T B
  refine W_putfield B hown (host := "") (Or.inl (ow hw (i := 200) rfl)) Via.refl (hb hby d2_83) (pc' := 86) rfl (Or.inl (ow hw (i := 201) rfl)) (ow hw (i := 2) rfl) (ty := (.object "com/example/tanglemark/tanglemark/datalog/Relation$Chains")) (by decide) rfl rfl (j := 9) rfl (q := 10) rfl (ds' := ((b74, oA (.object "java/lang/Object") [(.ref b73), .null, .null, .null, .null, .null, .null, .null, .null, .null]) :: (b75, oA .int [o0, o0, o0, o0, o0, o0, o0, o0, o0, o0, o0, o0, o0, o0, o0, o0]) :: (b76, oA .int [(.int (-1 : Int32)), (.int (-1 : Int32)), (.int (-1 : Int32)), (.int (-1 : Int32)), (.int (-1 : Int32)), (.int (-1 : Int32)), (.int (-1 : Int32)), (.int (-1 : Int32)), (.int (-1 : Int32)), (.int (-1 : Int32)), (.int (-1 : Int32)), (.int (-1 : Int32)), (.int (-1 : Int32)), (.int (-1 : Int32)), (.int (-1 : Int32)), (.int (-1 : Int32))]) :: (b77, oA .int [o0, (.int (1 : Int32)), (.int (2 : Int32))]) :: (b73, oO cn3 [(fk18, (.ref b77)), (fk19, (.ref b76)), (fk20, (.ref b75))]) :: (b78, oO cn2 [(fk14, (.ref b57)), (fk15, (.int (-1 : Int32))), (fk16, (.int (0 : Int32))), (fk17, (.int (0 : Int32)))]) :: (b59, oA .int [o0, (.int (1 : Int32)), (.int (2 : Int32))]) :: (b58, oA .int [o0, o0, o0, o0, o0, o0, o0, o0, o0, o0, o0, o0, o0, o0, o0, o0, o0, o0, o0, o0, o0, o0, o0, o0, o0, o0, o0, o0, o0, o0, o0, o0, o0, o0, o0, o0, o0, o0, o0, o0, o0, o0, o0, o0, o0, o0, o0, o0]) :: (b57, oO cn1 [(fk11, (.int (1 : Int32))), (fk12, (.ref b74)), (fk13, (.int (1 : Int32)))]) :: (ka1, oO cn0 [(fk0, (.ref b57)), (fk1, (.ref ka2)), (fk2, (.int (3 : Int32))), (fk3, (.int (2147483639 : Int32))), (fk4, (.int (1073741824 : Int32))), (fk5, (.ref b58)), (fk6, (.ref b59)), (fk7, .null), (fk8, (.int (0 : Int32))), (fk9, (.int (0 : Int32))), (fk10, (.ref b73))]) :: ds)) rfl ?_
  intro T B
  refine W_retV B hret (hb hby d2_86) (by decide) ?_
  exact ⟨b74, b73, b75, b76, b77, b78, b57, b59, b58, rfl, rfl⟩
theorem pd_15 : parseMethodDescriptor "(Ljava/lang/String;II)V" = some ⟨[(.object "java/lang/String"), .int, .int], none⟩ := by decide +kernel
theorem d1_8 : decode prog_45_method_1_code 8 = .ok (.return_, 1) := by decide +kernel
theorem ef_rm_a22 (m : MethodId) (x0 : Addr) (x1 : Addr) : entryFrame m #[(.ref x0), (.ref x1), (.int (3 : Int32))] 3 = mkF m 0 #[.val (.ref x0), .val (.ref x1), .val (.int (3 : Int32))] [] := by first | (simp [entryFrame, mkF, argsToLocals, Value.category]; done) | rfl
set_option maxRecDepth 65536 in
set_option maxHeartbeats 40000000 in
theorem rm_a22 (l : Launch) (Z : State) (a0 : Array Value) (hw : ∀ d ∈ tables_1, d.before a0 Z = true) (h0 : Heap) {lo : Nat} (ka1 : Addr) (ka2 : Addr) (ds : oDs) (de : Addr) (la : Addr) (hy0 : Sta Z h0 "java/util/ArrayList" "DEFAULTCAPACITY_EMPTY_ELEMENTDATA" "[Ljava/lang/Object;" (.ref de)) (hy1 : oLam Z h0 xI 63 sgm la) (hy2 : oOld Z h0 de (.object "java/lang/Object") 0) :
    oMet l Z h0 lo (⟨"com/example/tanglemark/tanglemark/datalog/Relation", "<init>", "(Ljava/lang/String;I)V"⟩ : MethodName) prog_45_method_1_code 3 none [] ({ frames := 7, cells := 9, slots := 106, locals := 3088 } : Room) #[(.ref ka1), (.ref ka2), (.int (3 : Int32))] ((ka1, oO cn0 [(fk0, .null), (fk1, .null), (fk2, (.int (0 : Int32))), (fk3, (.int (0 : Int32))), (fk4, (.int (0 : Int32))), (fk5, .null), (fk6, .null), (fk7, .null), (fk8, (.int (0 : Int32))), (fk9, (.int (0 : Int32))), (fk10, .null)]) :: ds) (fun (v : Option Value) (d : oDs) => (∃ (b110 : Addr) (b111 : Addr) (b112 : Addr) (b113 : Addr) (b114 : Addr) (b115 : Addr) (b116 : Addr) (b117 : Addr) (b118 : Addr), v = none ∧ ((b110, oA (.object "java/lang/Object") [(.ref b111), .null, .null, .null, .null, .null, .null, .null, .null, .null]) :: (b112, oA .int [o0, o0, o0, o0, o0, o0, o0, o0, o0, o0, o0, o0, o0, o0, o0, o0]) :: (b113, oA .int [(.int (-1 : Int32)), (.int (-1 : Int32)), (.int (-1 : Int32)), (.int (-1 : Int32)), (.int (-1 : Int32)), (.int (-1 : Int32)), (.int (-1 : Int32)), (.int (-1 : Int32)), (.int (-1 : Int32)), (.int (-1 : Int32)), (.int (-1 : Int32)), (.int (-1 : Int32)), (.int (-1 : Int32)), (.int (-1 : Int32)), (.int (-1 : Int32)), (.int (-1 : Int32))]) :: (b114, oA .int [o0, (.int (1 : Int32)), (.int (2 : Int32))]) :: (b111, oO cn3 [(fk18, (.ref b114)), (fk19, (.ref b113)), (fk20, (.ref b112))]) :: (b115, oO cn2 [(fk14, (.ref b116)), (fk15, (.int (-1 : Int32))), (fk16, (.int (0 : Int32))), (fk17, (.int (0 : Int32)))]) :: (b117, oA .int [o0, (.int (1 : Int32)), (.int (2 : Int32))]) :: (b118, oA .int [o0, o0, o0, o0, o0, o0, o0, o0, o0, o0, o0, o0, o0, o0, o0, o0, o0, o0, o0, o0, o0, o0, o0, o0, o0, o0, o0, o0, o0, o0, o0, o0, o0, o0, o0, o0, o0, o0, o0, o0, o0, o0, o0, o0, o0, o0, o0, o0]) :: (b116, oO cn1 [(fk11, (.int (1 : Int32))), (fk12, (.ref b110)), (fk13, (.int (1 : Int32)))]) :: (ka1, oO cn0 [(fk0, (.ref b116)), (fk1, (.ref ka2)), (fk2, (.int (3 : Int32))), (fk3, (.int (2147483639 : Int32))), (fk4, (.int (1073741824 : Int32))), (fk5, (.ref b118)), (fk6, (.ref b117)), (fk7, .null), (fk8, (.int (0 : Int32))), (fk9, (.int (0 : Int32))), (fk10, (.ref b111))]) :: ds) = d)) := by
  refine oMet.of_body (plainFor_of_name pn_9) ?_
  intro p e s m below meth c T B hby hml hown hnm hret
  refine W_entry (ef_rm_a22 m ka1 ka2) ?_
  refine W_aloadN B (hb hby d1_0) (pc' := 1) rfl rfl rfl ?_
  refine W_aloadN B (hb hby d1_1) (pc' := 2) rfl rfl rfl ?_
  refine W_iloadN B (hb hby d1_2) (pc' := 3) rfl rfl ?_
  refine W_ldcInt B hown (ow hw (i := 15) rfl) (hb hby d1_3) (pc' := 5) rfl ?_
  refine W_init B (y := (⟨"com/example/tanglemark/tanglemark/datalog/Relation", "<init>", "(Ljava/lang/String;II)V"⟩ : MethodName)) hown rfl (ow hw (i := 16) rfl) (ow hw (i := 17) rfl) (ow hw (i := 3) rfl) (ow hw (i := 18) rfl) (by decide) (a := ka1) (rm_a21 l Z a0 hw h0 ka1 ka2 _ de la hy0 hy1 hy2) (lenOf pd_15 rfl) (hb hby d1_5) (pc' := 8) rfl (argsL := [(.ref ka2), (.int (3 : Int32)), (.int (2147483639 : Int32))]) (rest := []) rfl (by rw [hml]; rfl) (W := 0) (oLe rfl) (by decide) (cells' := 9) rfl (slots' := 106) rfl ?_
  intro T v_ d_ q_ B
  obtain ⟨b110, b111, b112, b113, b114, b115, b116, b117, b118, rfl, rfl⟩ := q_
  show oWin p e below Z h0 _ _ (T.setTop (mkF m 8 #[.val (.ref ka1), .val (.ref ka2), .val (.int (3 : Int32))] []))
  refine W_retV B hret (hb hby d1_8) (by decide) ?_
  exact ⟨b110, b111, b112, b113, b114, b115, b116, b117, b118, rfl, rfl⟩
theorem pd_16 : parseMethodDescriptor "(Ljava/lang/String;I)V" = some ⟨[(.object "java/lang/String"), .int], none⟩ := by decide +kernel
theorem d25_0 : decode prog_45_method_8_code 0 = .ok (.aload_n 0, 1) := by decide +kernel
theorem d25_1 : decode prog_45_method_8_code 1 = .ok (.aload_n 1, 1) := by decide +kernel
theorem d25_2 : decode prog_45_method_8_code 2 = .ok (.invokevirtual 108, 3) := by decide +kernel
theorem d26_0 : decode prog_45_method_13_code 0 = .ok (.aload_n 0, 1) := by decide +kernel
theorem d26_1 : decode prog_45_method_13_code 1 = .ok (.aload_n 1, 1) := by decide +kernel
theorem d26_2 : decode prog_45_method_13_code 2 = .ok (.invokevirtual 178, 3) := by decide +kernel
theorem d27_0 : decode prog_45_method_14_code 0 = .ok (.aload_n 0, 1) := by decide +kernel
theorem d27_1 : decode prog_45_method_14_code 1 = .ok (.invokevirtual 116, 3) := by decide +kernel
theorem d28_0 : decode prog_45_method_16_code 0 = .ok (.aload_n 0, 1) := by decide +kernel
theorem d28_1 : decode prog_45_method_16_code 1 = .ok (.getfield 101, 3) := by decide +kernel
theorem d28_4 : decode prog_45_method_16_code 4 = .ok (.ifCond .eq 20, 3) := by decide +kernel
theorem d28_24 : decode prog_45_method_16_code 24 = .ok (.return_, 1) := by decide +kernel
theorem ef_rm_a23 (m : MethodId) (x0 : Addr) : entryFrame m #[(.ref x0)] 1 = mkF m 0 #[.val (.ref x0)] [] := by first | (simp [entryFrame, mkF, argsToLocals, Value.category]; done) | rfl
set_option maxRecDepth 65536 in
set_option maxHeartbeats 40000000 in
theorem rm_a23 (l : Launch) (Z : State) (a0 : Array Value) (hw : ∀ d ∈ tables_1, d.before a0 Z = true) (h0 : Heap) {lo : Nat} (ka1 : Addr) (e0 : Addr × oD) (e1 : Addr × oD) (e2 : Addr × oD) (e3 : Addr × oD) (e4 : Addr × oD) (e5 : Addr × oD) (e6 : Addr × oD) (e7 : Addr × oD) (e8 : Addr × oD) (ka2 : Addr) (ka3 : Addr) (ka4 : Addr) (ka5 : Addr) (ka6 : Addr) (ds : oDs) :
    oMet l Z h0 lo (⟨"com/example/tanglemark/tanglemark/datalog/Relation", "requireOpen", "()V"⟩ : MethodName) prog_45_method_16_code 1 none [] ({ frames := 0, cells := 0, slots := 0, locals := 0 } : Room) #[(.ref ka1)] (e0 :: e1 :: e2 :: e3 :: e4 :: e5 :: e6 :: e7 :: e8 :: (ka1, oO cn0 [(fk0, (.ref ka2)), (fk1, (.ref ka3)), (fk2, (.int (3 : Int32))), (fk3, (.int (2147483639 : Int32))), (fk4, (.int (1073741824 : Int32))), (fk5, (.ref ka4)), (fk6, (.ref ka5)), (fk7, .null), (fk8, (.int (0 : Int32))), (fk9, (.int (0 : Int32))), (fk10, (.ref ka6))]) :: ds) (fun (v : Option Value) (d : oDs) => (v = none ∧ (e0 :: e1 :: e2 :: e3 :: e4 :: e5 :: e6 :: e7 :: e8 :: (ka1, oO cn0 [(fk0, (.ref ka2)), (fk1, (.ref ka3)), (fk2, (.int (3 : Int32))), (fk3, (.int (2147483639 : Int32))), (fk4, (.int (1073741824 : Int32))), (fk5, (.ref ka4)), (fk6, (.ref ka5)), (fk7, .null), (fk8, (.int (0 : Int32))), (fk9, (.int (0 : Int32))), (fk10, (.ref ka6))]) :: ds) = d)) := by
  refine oMet.of_body (plainFor_of_name pn_9) ?_
  intro p e s m below meth c T B hby hml hown hnm hret
  refine W_entry (ef_rm_a23 m ka1) ?_
  refine W_aloadN B (hb hby d28_0) (pc' := 1) rfl rfl rfl ?_
  refine W_getfield B hown (host := "") (Or.inl (ow hw (i := 134) rfl)) Via.refl (hb hby d28_1) (pc' := 4) rfl (j := 9) rfl (q := 8) rfl ?_
  intro T B
  refine W_ifY B (hb hby d28_4) (by decide) (pc' := 24) (by decide) (by decide) ?_
  refine W_retV B hret (hb hby d28_24) (by decide) ?_
  exact ⟨rfl, rfl⟩
theorem d27_4 : decode prog_45_method_14_code 4 = .ok (.aload_n 0, 1) := by decide +kernel
theorem d27_5 : decode prog_45_method_14_code 5 = .ok (.aload_n 0, 1) := by decide +kernel
theorem d27_6 : decode prog_45_method_14_code 6 = .ok (.getfield 69, 3) := by decide +kernel
theorem d27_9 : decode prog_45_method_14_code 9 = .ok (.aload_n 1, 1) := by decide +kernel
theorem d27_10 : decode prog_45_method_14_code 10 = .ok (.aload_n 0, 1) := by decide +kernel
theorem d27_11 : decode prog_45_method_14_code 11 = .ok (.getfield 92, 3) := by decide +kernel
theorem d27_14 : decode prog_45_method_14_code 14 = .ok (.invokevirtual 182, 3) := by decide +kernel
theorem d29_0 : decode prog_45_method_15_code 0 = .ok (.aload_n 1, 1) := by decide +kernel
theorem d29_1 : decode prog_45_method_15_code 1 = .ok (.aload_n 2, 1) := by decide +kernel
theorem d29_2 : decode prog_45_method_15_code 2 = .ok (.invokestatic 186, 3) := by decide +kernel
theorem d30_0 : decode prog_45_method_30_code 0 = .ok (.iconst 0, 1) := by decide +kernel
theorem d30_1 : decode prog_45_method_30_code 1 = .ok (.istore_n 1, 1) := by decide +kernel
theorem d30_2 : decode prog_45_method_30_code 2 = .ok (.aload_n 0, 1) := by decide +kernel
theorem d30_3 : decode prog_45_method_30_code 3 = .ok (.astore_n 2, 1) := by decide +kernel
theorem d30_4 : decode prog_45_method_30_code 4 = .ok (.aload_n 2, 1) := by decide +kernel
theorem d30_5 : decode prog_45_method_30_code 5 = .ok (.arraylength, 1) := by decide +kernel
theorem d30_6 : decode prog_45_method_30_code 6 = .ok (.istore_n 3, 1) := by decide +kernel
theorem d30_7 : decode prog_45_method_30_code 7 = .ok (.iconst 0, 1) := by decide +kernel
theorem d30_8 : decode prog_45_method_30_code 8 = .ok (.istore 4, 2) := by decide +kernel
theorem d30_10 : decode prog_45_method_30_code 10 = .ok (.iload 4, 2) := by decide +kernel
theorem d30_12 : decode prog_45_method_30_code 12 = .ok (.iload_n 3, 1) := by decide +kernel
theorem d30_13 : decode prog_45_method_30_code 13 = .ok (.if_icmp .ge 22, 3) := by decide +kernel
theorem d30_16 : decode prog_45_method_30_code 16 = .ok (.aload_n 2, 1) := by decide +kernel
theorem d30_17 : decode prog_45_method_30_code 17 = .ok (.iload 4, 2) := by decide +kernel
theorem d30_19 : decode prog_45_method_30_code 19 = .ok (.iaload, 1) := by decide +kernel
theorem d30_20 : decode prog_45_method_30_code 20 = .ok (.istore 5, 2) := by decide +kernel
theorem d30_22 : decode prog_45_method_30_code 22 = .ok (.iload_n 1, 1) := by decide +kernel
theorem d30_23 : decode prog_45_method_30_code 23 = .ok (.iload 5, 2) := by decide +kernel
theorem d30_25 : decode prog_45_method_30_code 25 = .ok (.invokestatic 294, 3) := by decide +kernel
theorem d31_0 : decode prog_45_method_32_code 0 = .ok (.iload_n 0, 1) := by decide +kernel
theorem d31_1 : decode prog_45_method_32_code 1 = .ok (.iload_n 1, 1) := by decide +kernel
theorem d31_2 : decode prog_45_method_32_code 2 = .ok (.ixor, 1) := by decide +kernel
theorem d31_3 : decode prog_45_method_32_code 3 = .ok (.ldc_w 300, 3) := by decide +kernel
theorem d31_6 : decode prog_45_method_32_code 6 = .ok (.imul, 1) := by decide +kernel
theorem d31_7 : decode prog_45_method_32_code 7 = .ok (.ireturn, 1) := by decide +kernel
theorem ef_rm_a24 (m : MethodId) (x1 : Int32) : entryFrame m #[(.int (0 : Int32)), (.int x1)] 2 = mkF m 0 #[.val (.int (0 : Int32)), .val (.int x1)] [] := by first | (simp [entryFrame, mkF, argsToLocals, Value.category]; done) | rfl
set_option maxRecDepth 65536 in
set_option maxHeartbeats 40000000 in
theorem rm_a24 (l : Launch) (Z : State) (a0 : Array Value) (hw : ∀ d ∈ tables_1, d.before a0 Z = true) (h0 : Heap) {lo : Nat} (ia1 : Int32) (ds : oDs) :
    oMet l Z h0 lo (⟨"com/example/tanglemark/tanglemark/datalog/Relation", "mix", "(II)I"⟩ : MethodName) prog_45_method_32_code 2 (some .int) [] ({ frames := 0, cells := 0, slots := 0, locals := 0 } : Room) #[(.int (0 : Int32)), (.int ia1)] (ds) (fun (v : Option Value) (d : oDs) => (v = some (.int (oM (0 : Int32) ia1)) ∧ (ds) = d)) := by
  refine oMet.of_body (plainFor_of_name pn_9) ?_
  intro p e s m below meth c T B hby hml hown hnm hret
  refine W_entry (ef_rm_a24 m ia1) ?_
  refine W_iloadN B (hb hby d31_0) (pc' := 1) rfl rfl ?_
  refine W_iloadN B (hb hby d31_1) (pc' := 2) rfl rfl ?_
  refine W_ixor B (hb hby d31_2) (pc' := 3) rfl (z := ((0 : Int32) ^^^ ia1)) rfl ?_
  refine W_ldcWInt B hown (ow hw (i := 232) rfl) (hb hby d31_3) (pc' := 6) rfl ?_
  refine W_imul B (hb hby d31_6) (pc' := 7) rfl (z := (((0 : Int32) ^^^ ia1) * (-1640531535 : Int32))) rfl ?_
  refine W_retI B hret (hb hby d31_7) (by decide) ?_
  exact ⟨rfl, rfl⟩
theorem d30_28 : decode prog_45_method_30_code 28 = .ok (.istore_n 1, 1) := by decide +kernel
theorem d30_29 : decode prog_45_method_30_code 29 = .ok (.iinc 4 1, 3) := by decide +kernel
theorem d30_32 : decode prog_45_method_30_code 32 = .ok (.goto (-22), 3) := by decide +kernel
theorem ef_rm_a25 (m : MethodId) (x0 : Int32) (x1 : Int32) : entryFrame m #[(.int x0), (.int x1)] 2 = mkF m 0 #[.val (.int x0), .val (.int x1)] [] := by first | (simp [entryFrame, mkF, argsToLocals, Value.category]; done) | rfl
set_option maxRecDepth 65536 in
set_option maxHeartbeats 40000000 in
theorem rm_a25 (l : Launch) (Z : State) (a0 : Array Value) (hw : ∀ d ∈ tables_1, d.before a0 Z = true) (h0 : Heap) {lo : Nat} (ia1 : Int32) (ia2 : Int32) (ds : oDs) :
    oMet l Z h0 lo (⟨"com/example/tanglemark/tanglemark/datalog/Relation", "mix", "(II)I"⟩ : MethodName) prog_45_method_32_code 2 (some .int) [] ({ frames := 0, cells := 0, slots := 0, locals := 0 } : Room) #[(.int (oM (0 : Int32) ia1)), (.int ia2)] (ds) (fun (v : Option Value) (d : oDs) => (v = some (.int (oM (oM (0 : Int32) ia1) ia2)) ∧ (ds) = d)) := by
  refine oMet.of_body (plainFor_of_name pn_9) ?_
  intro p e s m below meth c T B hby hml hown hnm hret
  refine W_entry (ef_rm_a25 m (oM (0 : Int32) ia1) ia2) ?_
  refine W_iloadN B (hb hby d31_0) (pc' := 1) rfl rfl ?_
  refine W_iloadN B (hb hby d31_1) (pc' := 2) rfl rfl ?_
  refine W_ixor B (hb hby d31_2) (pc' := 3) rfl (z := ((oM (0 : Int32) ia1) ^^^ ia2)) rfl ?_
  refine W_ldcWInt B hown (ow hw (i := 232) rfl) (hb hby d31_3) (pc' := 6) rfl ?_
  refine W_imul B (hb hby d31_6) (pc' := 7) rfl (z := (((oM (0 : Int32) ia1) ^^^ ia2) * (-1640531535 : Int32))) rfl ?_
  refine W_retI B hret (hb hby d31_7) (by decide) ?_
  exact ⟨rfl, rfl⟩
theorem ef_rm_a26 (m : MethodId) (x0 : Int32) (x1 : Int32) : entryFrame m #[(.int x0), (.int x1)] 2 = mkF m 0 #[.val (.int x0), .val (.int x1)] [] := by first | (simp [entryFrame, mkF, argsToLocals, Value.category]; done) | rfl
set_option maxRecDepth 65536 in
set_option maxHeartbeats 40000000 in
theorem rm_a26 (l : Launch) (Z : State) (a0 : Array Value) (hw : ∀ d ∈ tables_1, d.before a0 Z = true) (h0 : Heap) {lo : Nat} (ia1 : Int32) (ia2 : Int32) (ia3 : Int32) (ds : oDs) :
    oMet l Z h0 lo (⟨"com/example/tanglemark/tanglemark/datalog/Relation", "mix", "(II)I"⟩ : MethodName) prog_45_method_32_code 2 (some .int) [] ({ frames := 0, cells := 0, slots := 0, locals := 0 } : Room) #[(.int (oM (oM (0 : Int32) ia1) ia2)), (.int ia3)] (ds) (fun (v : Option Value) (d : oDs) => (v = some (.int (oM (oM (oM (0 : Int32) ia1) ia2) ia3)) ∧ (ds) = d)) := by
  refine oMet.of_body (plainFor_of_name pn_9) ?_
  intro p e s m below meth c T B hby hml hown hnm hret
  refine W_entry (ef_rm_a26 m (oM (oM (0 : Int32) ia1) ia2) ia3) ?_
  refine W_iloadN B (hb hby d31_0) (pc' := 1) rfl rfl ?_
  refine W_iloadN B (hb hby d31_1) (pc' := 2) rfl rfl ?_
  refine W_ixor B (hb hby d31_2) (pc' := 3) rfl (z := ((oM (oM (0 : Int32) ia1) ia2) ^^^ ia3)) rfl ?_
  refine W_ldcWInt B hown (ow hw (i := 232) rfl) (hb hby d31_3) (pc' := 6) rfl ?_
  refine W_imul B (hb hby d31_6) (pc' := 7) rfl (z := (((oM (oM (0 : Int32) ia1) ia2) ^^^ ia3) * (-1640531535 : Int32))) rfl ?_
  refine W_retI B hret (hb hby d31_7) (by decide) ?_
  exact ⟨rfl, rfl⟩
theorem d30_35 : decode prog_45_method_30_code 35 = .ok (.iload_n 1, 1) := by decide +kernel
theorem d30_36 : decode prog_45_method_30_code 36 = .ok (.invokestatic 297, 3) := by decide +kernel
theorem d32_0 : decode prog_45_method_33_code 0 = .ok (.iload_n 0, 1) := by decide +kernel
theorem d32_1 : decode prog_45_method_33_code 1 = .ok (.iload_n 0, 1) := by decide +kernel
theorem d32_2 : decode prog_45_method_33_code 2 = .ok (.bipush 16, 2) := by decide +kernel
theorem d32_4 : decode prog_45_method_33_code 4 = .ok (.iushr, 1) := by decide +kernel
theorem d32_5 : decode prog_45_method_33_code 5 = .ok (.ixor, 1) := by decide +kernel
theorem d32_6 : decode prog_45_method_33_code 6 = .ok (.ireturn, 1) := by decide +kernel
theorem ef_rm_a27 (m : MethodId) (x0 : Int32) : entryFrame m #[(.int x0)] 1 = mkF m 0 #[.val (.int x0)] [] := by first | (simp [entryFrame, mkF, argsToLocals, Value.category]; done) | rfl
set_option maxRecDepth 65536 in
set_option maxHeartbeats 40000000 in
theorem rm_a27 (l : Launch) (Z : State) (a0 : Array Value) (hw : ∀ d ∈ tables_1, d.before a0 Z = true) (h0 : Heap) {lo : Nat} (ia1 : Int32) (ia2 : Int32) (ia3 : Int32) (ds : oDs) :
    oMet l Z h0 lo (⟨"com/example/tanglemark/tanglemark/datalog/Relation", "finish", "(I)I"⟩ : MethodName) prog_45_method_33_code 1 (some .int) [] ({ frames := 0, cells := 0, slots := 0, locals := 0 } : Room) #[(.int (oM (oM (oM (0 : Int32) ia1) ia2) ia3))] (ds) (fun (v : Option Value) (d : oDs) => (v = some (.int (oF (oM (oM (oM (0 : Int32) ia1) ia2) ia3))) ∧ (ds) = d)) := by
  refine oMet.of_body (plainFor_of_name pn_9) ?_
  intro p e s m below meth c T B hby hml hown hnm hret
  refine W_entry (ef_rm_a27 m (oM (oM (oM (0 : Int32) ia1) ia2) ia3)) ?_
  refine W_iloadN B (hb hby d32_0) (pc' := 1) rfl rfl ?_
  refine W_iloadN B (hb hby d32_1) (pc' := 2) rfl rfl ?_
  refine W_bipush B (hb hby d32_2) (pc' := 4) rfl (z := (16 : Int32)) (by decide) ?_
  refine W_iushr B (hb hby d32_4) (pc' := 5) rfl (z := (((oM (oM (oM (0 : Int32) ia1) ia2) ia3).toUInt32 >>> ((16 : Int32) &&& 31).toUInt32).toInt32)) rfl ?_
  refine W_ixor B (hb hby d32_5) (pc' := 6) rfl (z := ((oM (oM (oM (0 : Int32) ia1) ia2) ia3) ^^^ (((oM (oM (oM (0 : Int32) ia1) ia2) ia3).toUInt32 >>> ((16 : Int32) &&& 31).toUInt32).toInt32))) rfl ?_
  refine W_retI B hret (hb hby d32_6) (by decide) ?_
  exact ⟨rfl, rfl⟩
theorem d30_39 : decode prog_45_method_30_code 39 = .ok (.ireturn, 1) := by decide +kernel
theorem ef_rm_a28 (m : MethodId) (x0 : Addr) : entryFrame m #[(.ref x0)] 6 = mkF m 0 #[.val (.ref x0), .unset, .unset, .unset, .unset, .unset] [] := by first | (simp [entryFrame, mkF, argsToLocals, Value.category]; done) | rfl
set_option maxRecDepth 65536 in
set_option maxHeartbeats 40000000 in
theorem rm_a28 (l : Launch) (Z : State) (a0 : Array Value) (hw : ∀ d ∈ tables_1, d.before a0 Z = true) (h0 : Heap) {lo : Nat} (ka1 : Addr) (e0 : Addr × oD) (e1 : Addr × oD) (e2 : Addr × oD) (e3 : Addr × oD) (e4 : Addr × oD) (e5 : Addr × oD) (e6 : Addr × oD) (e7 : Addr × oD) (e8 : Addr × oD) (e9 : Addr × oD) (e10 : Addr × oD) (e11 : Addr × oD) (e12 : Addr × oD) (ia1 : Int32) (ia2 : Int32) (ia3 : Int32) (ds : oDs) :
    oMet l Z h0 lo (⟨"com/example/tanglemark/tanglemark/datalog/Relation", "hash", "([I)I"⟩ : MethodName) prog_45_method_30_code 6 (some .int) [] ({ frames := 1, cells := 0, slots := 0, locals := 13 } : Room) #[(.ref ka1)] (e0 :: e1 :: e2 :: e3 :: e4 :: e5 :: e6 :: e7 :: e8 :: e9 :: e10 :: e11 :: e12 :: (ka1, oA .int [(.int ia1), (.int ia2), (.int ia3)]) :: ds) (fun (v : Option Value) (d : oDs) => (v = some (.int (oH ia1 ia2 ia3)) ∧ (e0 :: e1 :: e2 :: e3 :: e4 :: e5 :: e6 :: e7 :: e8 :: e9 :: e10 :: e11 :: e12 :: (ka1, oA .int [(.int ia1), (.int ia2), (.int ia3)]) :: ds) = d)) := by
  refine oMet.of_body (plainFor_of_name pn_9) ?_
  intro p e s m below meth c T B hby hml hown hnm hret
  refine W_entry (ef_rm_a28 m ka1) ?_
  refine W_iconst B (hb hby d30_0) (pc' := 1) rfl (z := (0 : Int32)) (by decide) ?_
  refine W_istoreN B (hb hby d30_1) (pc' := 2) rfl (v := (0 : Int32)) rfl (ls' := #[.val (.ref ka1), .val (.int (0 : Int32)), .unset, .unset, .unset, .unset]) rfl ?_
  refine W_aloadN B (hb hby d30_2) (pc' := 3) rfl rfl rfl ?_
  refine W_astoreN B (hb hby d30_3) (pc' := 4) rfl rfl (ls' := #[.val (.ref ka1), .val (.int (0 : Int32)), .val (.ref ka1), .unset, .unset, .unset]) rfl ?_
  refine W_aloadN B (hb hby d30_4) (pc' := 5) rfl rfl rfl ?_
  refine W_arraylength B (hb hby d30_5) (pc' := 6) rfl (j := 13) rfl (z := (3 : Int32)) rfl ?_
  refine W_istoreN B (hb hby d30_6) (pc' := 7) rfl (v := (3 : Int32)) rfl (ls' := #[.val (.ref ka1), .val (.int (0 : Int32)), .val (.ref ka1), .val (.int (3 : Int32)), .unset, .unset]) rfl ?_
  refine W_iconst B (hb hby d30_7) (pc' := 8) rfl (z := (0 : Int32)) (by decide) ?_
  refine W_istore B (hb hby d30_8) (pc' := 10) rfl (v := (0 : Int32)) rfl (ls' := #[.val (.ref ka1), .val (.int (0 : Int32)), .val (.ref ka1), .val (.int (3 : Int32)), .val (.int (0 : Int32)), .unset]) rfl ?_
  refine W_iload B (hb hby d30_10) (pc' := 12) rfl rfl ?_
  refine W_iloadN B (hb hby d30_12) (pc' := 13) rfl rfl ?_
  refine W_icmpN B (hb hby d30_13) (pc' := 16) rfl (by decide) ?_
  refine W_aloadN B (hb hby d30_16) (pc' := 17) rfl rfl rfl ?_
  refine W_iload B (hb hby d30_17) (pc' := 19) rfl rfl ?_
  refine W_iaload B (hb hby d30_19) (pc' := 20) rfl (i := 13) rfl (by decide) (v := (.int ia1)) rfl ?_
  refine W_istore B (hb hby d30_20) (pc' := 22) rfl (v := ia1) rfl (ls' := #[.val (.ref ka1), .val (.int (0 : Int32)), .val (.ref ka1), .val (.int (3 : Int32)), .val (.int (0 : Int32)), .val (.int ia1)]) rfl ?_
  refine W_iloadN B (hb hby d30_22) (pc' := 23) rfl rfl ?_
  refine W_iload B (hb hby d30_23) (pc' := 25) rfl rfl ?_
  refine W_callS B (y := (⟨"com/example/tanglemark/tanglemark/datalog/Relation", "mix", "(II)I"⟩ : MethodName)) hown (ow hw (i := 229) rfl) (ow hw (i := 230) rfl) (ow hw (i := 3) rfl) (ow hw (i := 231) rfl) (by decide) (rm_a24 l Z a0 hw h0 ia1 _ ) (lenOf pd_2 rfl) (hb hby d30_25) (pc' := 28) rfl (argsL := [(.int (0 : Int32)), (.int ia1)]) (rest := []) rfl (by rw [hml]; rfl) (W := 0) (oLe rfl) (by decide) (cells' := 0) rfl (slots' := 0) rfl ?_
  intro T v_ d_ q_ B
  obtain ⟨rfl, rfl⟩ := q_
  show oWin p e below Z h0 _ _ (T.setTop (mkF m 28 #[.val (.ref ka1), .val (.int (0 : Int32)), .val (.ref ka1), .val (.int (3 : Int32)), .val (.int (0 : Int32)), .val (.int ia1)] [(.int (oM (0 : Int32) ia1))]))
  refine W_istoreN B (hb hby d30_28) (pc' := 29) rfl (v := (oM (0 : Int32) ia1)) rfl (ls' := #[.val (.ref ka1), .val (.int (oM (0 : Int32) ia1)), .val (.ref ka1), .val (.int (3 : Int32)), .val (.int (0 : Int32)), .val (.int ia1)]) rfl ?_
  refine W_iinc B (hb hby d30_29) (pc' := 32) rfl rfl (z := (1 : Int32)) (by decide) (ls' := #[.val (.ref ka1), .val (.int (oM (0 : Int32) ia1)), .val (.ref ka1), .val (.int (3 : Int32)), .val (.int (1 : Int32)), .val (.int ia1)]) rfl ?_
  refine W_goto B (hb hby d30_32) (by decide) (pc' := 10) (by decide) ?_
  refine W_iload B (hb hby d30_10) (pc' := 12) rfl rfl ?_
  refine W_iloadN B (hb hby d30_12) (pc' := 13) rfl rfl ?_
  refine W_icmpN B (hb hby d30_13) (pc' := 16) rfl (by decide) ?_
  refine W_aloadN B (hb hby d30_16) (pc' := 17) rfl rfl rfl ?_
  refine W_iload B (hb hby d30_17) (pc' := 19) rfl rfl ?_
  refine W_iaload B (hb hby d30_19) (pc' := 20) rfl (i := 13) rfl (by decide) (v := (.int ia2)) rfl ?_
  refine W_istore B (hb hby d30_20) (pc' := 22) rfl (v := ia2) rfl (ls' := #[.val (.ref ka1), .val (.int (oM (0 : Int32) ia1)), .val (.ref ka1), .val (.int (3 : Int32)), .val (.int (1 : Int32)), .val (.int ia2)]) rfl ?_
  refine W_iloadN B (hb hby d30_22) (pc' := 23) rfl rfl ?_
  refine W_iload B (hb hby d30_23) (pc' := 25) rfl rfl ?_
  refine W_callS B (y := (⟨"com/example/tanglemark/tanglemark/datalog/Relation", "mix", "(II)I"⟩ : MethodName)) hown (ow hw (i := 229) rfl) (ow hw (i := 230) rfl) (ow hw (i := 3) rfl) (ow hw (i := 231) rfl) (by decide) (rm_a25 l Z a0 hw h0 ia1 ia2 _ ) (lenOf pd_2 rfl) (hb hby d30_25) (pc' := 28) rfl (argsL := [(.int (oM (0 : Int32) ia1)), (.int ia2)]) (rest := []) rfl (by rw [hml]; rfl) (W := 0) (oLe rfl) (by decide) (cells' := 0) rfl (slots' := 0) rfl ?_
  intro T v_ d_ q_ B
  obtain ⟨rfl, rfl⟩ := q_
  show oWin p e below Z h0 _ _ (T.setTop (mkF m 28 #[.val (.ref ka1), .val (.int (oM (0 : Int32) ia1)), .val (.ref ka1), .val (.int (3 : Int32)), .val (.int (1 : Int32)), .val (.int ia2)] [(.int (oM (oM (0 : Int32) ia1) ia2))]))
  refine W_istoreN B (hb hby d30_28) (pc' := 29) rfl (v := (oM (oM (0 : Int32) ia1) ia2)) rfl (ls' := #[.val (.ref ka1), .val (.int (oM (oM (0 : Int32) ia1) ia2)), .val (.ref ka1), .val (.int (3 : Int32)), .val (.int (1 : Int32)), .val (.int ia2)]) rfl ?_
  refine W_iinc B (hb hby d30_29) (pc' := 32) rfl rfl (z := (2 : Int32)) (by decide) (ls' := #[.val (.ref ka1), .val (.int (oM (oM (0 : Int32) ia1) ia2)), .val (.ref ka1), .val (.int (3 : Int32)), .val (.int (2 : Int32)), .val (.int ia2)]) rfl ?_
  refine W_goto B (hb hby d30_32) (by decide) (pc' := 10) (by decide) ?_
  refine W_iload B (hb hby d30_10) (pc' := 12) rfl rfl ?_
  refine W_iloadN B (hb hby d30_12) (pc' := 13) rfl rfl ?_
  refine W_icmpN B (hb hby d30_13) (pc' := 16) rfl (by decide) ?_
  refine W_aloadN B (hb hby d30_16) (pc' := 17) rfl rfl rfl ?_
  refine W_iload B (hb hby d30_17) (pc' := 19) rfl rfl ?_
  refine W_iaload B (hb hby d30_19) (pc' := 20) rfl (i := 13) rfl (by decide) (v := (.int ia3)) rfl ?_
  refine W_istore B (hb hby d30_20) (pc' := 22) rfl (v := ia3) rfl (ls' := #[.val (.ref ka1), .val (.int (oM (oM (0 : Int32) ia1) ia2)), .val (.ref ka1), .val (.int (3 : Int32)), .val (.int (2 : Int32)), .val (.int ia3)]) rfl ?_
  refine W_iloadN B (hb hby d30_22) (pc' := 23) rfl rfl ?_
  refine W_iload B (hb hby d30_23) (pc' := 25) rfl rfl ?_
  refine W_callS B (y := (⟨"com/example/tanglemark/tanglemark/datalog/Relation", "mix", "(II)I"⟩ : MethodName)) hown (ow hw (i := 229) rfl) (ow hw (i := 230) rfl) (ow hw (i := 3) rfl) (ow hw (i := 231) rfl) (by decide) (rm_a26 l Z a0 hw h0 ia1 ia2 ia3 _ ) (lenOf pd_2 rfl) (hb hby d30_25) (pc' := 28) rfl (argsL := [(.int (oM (oM (0 : Int32) ia1) ia2)), (.int ia3)]) (rest := []) rfl (by rw [hml]; rfl) (W := 0) (oLe rfl) (by decide) (cells' := 0) rfl (slots' := 0) rfl ?_
  intro T v_ d_ q_ B
  obtain ⟨rfl, rfl⟩ := q_
  show oWin p e below Z h0 _ _ (T.setTop (mkF m 28 #[.val (.ref ka1), .val (.int (oM (oM (0 : Int32) ia1) ia2)), .val (.ref ka1), .val (.int (3 : Int32)), .val (.int (2 : Int32)), .val (.int ia3)] [(.int (oM (oM (oM (0 : Int32) ia1) ia2) ia3))]))
  refine W_istoreN B (hb hby d30_28) (pc' := 29) rfl (v := (oM (oM (oM (0 : Int32) ia1) ia2) ia3)) rfl (ls' := #[.val (.ref ka1), .val (.int (oM (oM (oM (0 : Int32) ia1) ia2) ia3)), .val (.ref ka1), .val (.int (3 : Int32)), .val (.int (2 : Int32)), .val (.int ia3)]) rfl ?_
  refine W_iinc B (hb hby d30_29) (pc' := 32) rfl rfl (z := (3 : Int32)) (by decide) (ls' := #[.val (.ref ka1), .val (.int (oM (oM (oM (0 : Int32) ia1) ia2) ia3)), .val (.ref ka1), .val (.int (3 : Int32)), .val (.int (3 : Int32)), .val (.int ia3)]) rfl ?_
  refine W_goto B (hb hby d30_32) (by decide) (pc' := 10) (by decide) ?_
  refine W_iload B (hb hby d30_10) (pc' := 12) rfl rfl ?_
  refine W_iloadN B (hb hby d30_12) (pc' := 13) rfl rfl ?_
  refine W_icmpY B (hb hby d30_13) (by decide) (pc' := 35) (by decide) (by decide) ?_
  refine W_iloadN B (hb hby d30_35) (pc' := 36) rfl rfl ?_
  refine W_callS B (y := (⟨"com/example/tanglemark/tanglemark/datalog/Relation", "finish", "(I)I"⟩ : MethodName)) hown (ow hw (i := 233) rfl) (ow hw (i := 234) rfl) (ow hw (i := 3) rfl) (ow hw (i := 235) rfl) (by decide) (rm_a27 l Z a0 hw h0 ia1 ia2 ia3 _ ) (lenOf pd_1 rfl) (hb hby d30_36) (pc' := 39) rfl (argsL := [(.int (oM (oM (oM (0 : Int32) ia1) ia2) ia3))]) (rest := []) rfl (by rw [hml]; rfl) (W := 0) (oLe rfl) (by decide) (cells' := 0) rfl (slots' := 0) rfl ?_
  intro T v_ d_ q_ B
  obtain ⟨rfl, rfl⟩ := q_
  show oWin p e below Z h0 _ _ (T.setTop (mkF m 39 #[.val (.ref ka1), .val (.int (oM (oM (oM (0 : Int32) ia1) ia2) ia3)), .val (.ref ka1), .val (.int (3 : Int32)), .val (.int (3 : Int32)), .val (.int ia3)] [(.int (oF (oM (oM (oM (0 : Int32) ia1) ia2) ia3)))]))
  refine W_retI B hret (hb hby d30_39) (by decide) ?_
  exact ⟨rfl, rfl⟩
theorem pd_17 : parseMethodDescriptor "([I)I" = some ⟨[(.array .int)], some .int⟩ := by decide +kernel
theorem d29_5 : decode prog_45_method_15_code 5 = .ok (.invokestatic 189, 3) := by decide +kernel
theorem d33_0 : decode prog_45_method_28_code 0 = .ok (.aload_n 0, 1) := by decide +kernel
theorem d33_1 : decode prog_45_method_28_code 1 = .ok (.getfield 289, 3) := by decide +kernel
theorem d33_4 : decode prog_45_method_28_code 4 = .ok (.iload_n 1, 1) := by decide +kernel
theorem d33_5 : decode prog_45_method_28_code 5 = .ok (.aload_n 0, 1) := by decide +kernel
theorem d33_6 : decode prog_45_method_28_code 6 = .ok (.getfield 289, 3) := by decide +kernel
theorem d33_9 : decode prog_45_method_28_code 9 = .ok (.arraylength, 1) := by decide +kernel
theorem d33_10 : decode prog_45_method_28_code 10 = .ok (.iconst 1, 1) := by decide +kernel
theorem d33_11 : decode prog_45_method_28_code 11 = .ok (.isub, 1) := by decide +kernel
theorem d33_12 : decode prog_45_method_28_code 12 = .ok (.iand, 1) := by decide +kernel
theorem d33_13 : decode prog_45_method_28_code 13 = .ok (.iaload, 1) := by decide +kernel
theorem d33_14 : decode prog_45_method_28_code 14 = .ok (.ireturn, 1) := by decide +kernel
theorem ef_rm_a29 (m : MethodId) (x0 : Addr) (x1 : Int32) : entryFrame m #[(.ref x0), (.int x1)] 2 = mkF m 0 #[.val (.ref x0), .val (.int x1)] [] := by first | (simp [entryFrame, mkF, argsToLocals, Value.category]; done) | rfl
set_option maxRecDepth 65536 in
set_option maxHeartbeats 40000000 in
theorem rm_a29 (l : Launch) (Z : State) (a0 : Array Value) (hw : ∀ d ∈ tables_1, d.before a0 Z = true) (h0 : Heap) {lo : Nat} (ka1 : Addr) (ia1 : Int32) (ia2 : Int32) (ia3 : Int32) (e0 : Addr × oD) (e1 : Addr × oD) (ka2 : Addr) (e3 : Addr × oD) (ka3 : Addr) (ka4 : Addr) (ds : oDs) (hy0 : oHd0.length.toInt32 = (16 : Int32)) (hy1 : oHd0[((oH ia1 ia2 ia3) &&& (15 : Int32)).toNatClampNeg]? = some (.int (-1 : Int32))) (hy2 : ¬ ((oH ia1 ia2 ia3) &&& (15 : Int32)) < (0 : Int32)) :
    oMet l Z h0 lo (⟨"com/example/tanglemark/tanglemark/datalog/Relation", "first", "(Lcom/example/tanglemark/tanglemark/datalog/Relation$Chains;I)I"⟩ : MethodName) prog_45_method_28_code 2 (some .int) [] ({ frames := 0, cells := 0, slots := 0, locals := 0 } : Room) #[(.ref ka1), (.int (oH ia1 ia2 ia3))] (e0 :: e1 :: (ka2, oA .int oHd0) :: e3 :: (ka1, oO cn3 [(fk18, (.ref ka3)), (fk19, (.ref ka2)), (fk20, (.ref ka4))]) :: ds) (fun (v : Option Value) (d : oDs) => (v = some (.int (-1 : Int32)) ∧ (e0 :: e1 :: (ka2, oA .int oHd0) :: e3 :: (ka1, oO cn3 [(fk18, (.ref ka3)), (fk19, (.ref ka2)), (fk20, (.ref ka4))]) :: ds) = d)) := by
  refine oMet.of_body (plainFor_of_name pn_9) ?_
  intro p e s m below meth c T B hby hml hown hnm hret
  refine W_entry (ef_rm_a29 m ka1 (oH ia1 ia2 ia3)) ?_
  refine W_aloadN B (hb hby d33_0) (pc' := 1) rfl rfl rfl ?_
  refine W_getfieldR B hown (ow hw (i := 239) rfl) (hb hby d33_1) (pc' := 4) rfl (j := 4) rfl (q := 1) rfl ?_
  refine W_iloadN B (hb hby d33_4) (pc' := 5) rfl rfl ?_
  refine W_aloadN B (hb hby d33_5) (pc' := 6) rfl rfl rfl ?_
  refine W_getfieldR B hown (ow hw (i := 239) rfl) (hb hby d33_6) (pc' := 9) rfl (j := 4) rfl (q := 1) rfl ?_
  refine W_arraylength B (hb hby d33_9) (pc' := 10) rfl (j := 2) rfl (z := (16 : Int32)) hy0 ?_
  refine W_iconst B (hb hby d33_10) (pc' := 11) rfl (z := (1 : Int32)) (by decide) ?_
  refine W_isub B (hb hby d33_11) (pc' := 12) rfl (z := (15 : Int32)) (by decide) ?_
  refine W_iand B (hb hby d33_12) (pc' := 13) rfl (z := ((oH ia1 ia2 ia3) &&& (15 : Int32))) rfl ?_
  refine W_iaload B (hb hby d33_13) (pc' := 14) rfl (i := 2) rfl hy2 (v := (.int (-1 : Int32))) hy1 ?_
  refine W_retI B hret (hb hby d33_14) (by decide) ?_
  exact ⟨rfl, rfl⟩
theorem pd_18 : parseMethodDescriptor "(Lcom/example/tanglemark/tanglemark/datalog/Relation$Chains;I)I" = some ⟨[(.object "com/example/tanglemark/tanglemark/datalog/Relation$Chains"), .int], some .int⟩ := by decide +kernel
theorem d29_8 : decode prog_45_method_15_code 8 = .ok (.istore 4, 2) := by decide +kernel
theorem d29_10 : decode prog_45_method_15_code 10 = .ok (.iload 4, 2) := by decide +kernel
theorem d29_12 : decode prog_45_method_15_code 12 = .ok (.ifCond .lt 37, 3) := by decide +kernel
theorem d29_49 : decode prog_45_method_15_code 49 = .ok (.iconst (-1), 1) := by decide +kernel
theorem d29_50 : decode prog_45_method_15_code 50 = .ok (.ireturn, 1) := by decide +kernel
theorem ef_rm_a30 (m : MethodId) (x0 : Addr) (x1 : Addr) (x2 : Addr) : entryFrame m #[(.ref x0), (.ref x1), (.ref x2), (.int (0 : Int32))] 5 = mkF m 0 #[.val (.ref x0), .val (.ref x1), .val (.ref x2), .val (.int (0 : Int32)), .unset] [] := by first | (simp [entryFrame, mkF, argsToLocals, Value.category]; done) | rfl
set_option maxRecDepth 65536 in
set_option maxHeartbeats 40000000 in
theorem rm_a30 (l : Launch) (Z : State) (a0 : Array Value) (hw : ∀ d ∈ tables_1, d.before a0 Z = true) (h0 : Heap) {lo : Nat} (ka1 : Addr) (ka2 : Addr) (ka3 : Addr) (e0 : Addr × oD) (e1 : Addr × oD) (ka4 : Addr) (e3 : Addr × oD) (ka5 : Addr) (ka6 : Addr) (e5 : Addr × oD) (e6 : Addr × oD) (e7 : Addr × oD) (e8 : Addr × oD) (e9 : Addr × oD) (e10 : Addr × oD) (e11 : Addr × oD) (e12 : Addr × oD) (ia1 : Int32) (ia2 : Int32) (ia3 : Int32) (ds : oDs) (hy0 : oHd0.length.toInt32 = (16 : Int32)) (hy1 : oHd0[((oH ia1 ia2 ia3) &&& (15 : Int32)).toNatClampNeg]? = some (.int (-1 : Int32))) (hy2 : ¬ ((oH ia1 ia2 ia3) &&& (15 : Int32)) < (0 : Int32)) :
    oMet l Z h0 lo (⟨"com/example/tanglemark/tanglemark/datalog/Relation", "newest", "(Lcom/example/tanglemark/tanglemark/datalog/Relation$Chains;[II)I"⟩ : MethodName) prog_45_method_15_code 5 (some .int) [] ({ frames := 2, cells := 0, slots := 0, locals := 31 } : Room) #[(.ref ka1), (.ref ka2), (.ref ka3), (.int (0 : Int32))] (e0 :: e1 :: (ka4, oA .int oHd0) :: e3 :: (ka2, oO cn3 [(fk18, (.ref ka5)), (fk19, (.ref ka4)), (fk20, (.ref ka6))]) :: e5 :: e6 :: e7 :: e8 :: e9 :: e10 :: e11 :: e12 :: (ka3, oA .int [(.int ia1), (.int ia2), (.int ia3)]) :: ds) (fun (v : Option Value) (d : oDs) => (v = some (.int (-1 : Int32)) ∧ (e0 :: e1 :: (ka4, oA .int oHd0) :: e3 :: (ka2, oO cn3 [(fk18, (.ref ka5)), (fk19, (.ref ka4)), (fk20, (.ref ka6))]) :: e5 :: e6 :: e7 :: e8 :: e9 :: e10 :: e11 :: e12 :: (ka3, oA .int [(.int ia1), (.int ia2), (.int ia3)]) :: ds) = d)) := by
  refine oMet.of_body (plainFor_of_name pn_9) ?_
  intro p e s m below meth c T B hby hml hown hnm hret
  refine W_entry (ef_rm_a30 m ka1 ka2 ka3) ?_
  refine W_aloadN B (hb hby d29_0) (pc' := 1) rfl rfl rfl ?_
  refine W_aloadN B (hb hby d29_1) (pc' := 2) rfl rfl rfl ?_
  refine W_callS B (y := (⟨"com/example/tanglemark/tanglemark/datalog/Relation", "hash", "([I)I"⟩ : MethodName)) hown (ow hw (i := 226) rfl) (ow hw (i := 227) rfl) (ow hw (i := 3) rfl) (ow hw (i := 228) rfl) (by decide) (rm_a28 l Z a0 hw h0 ka3 _ _ _ _ _ _ _ _ _ _ _ _ _ ia1 ia2 ia3 _ ) (lenOf pd_17 rfl) (hb hby d29_2) (pc' := 5) rfl (argsL := [(.ref ka3)]) (rest := [(.ref ka2)]) rfl (by rw [hml]; rfl) (W := 1) (oLe rfl) (by decide) (cells' := 0) rfl (slots' := 0) rfl ?_
  intro T v_ d_ q_ B
  obtain ⟨rfl, rfl⟩ := q_
  show oWin p e below Z h0 _ _ (T.setTop (mkF m 5 #[.val (.ref ka1), .val (.ref ka2), .val (.ref ka3), .val (.int (0 : Int32)), .unset] [(.int (oH ia1 ia2 ia3)), (.ref ka2)]))
  refine W_callS B (y := (⟨"com/example/tanglemark/tanglemark/datalog/Relation", "first", "(Lcom/example/tanglemark/tanglemark/datalog/Relation$Chains;I)I"⟩ : MethodName)) hown (ow hw (i := 236) rfl) (ow hw (i := 237) rfl) (ow hw (i := 3) rfl) (ow hw (i := 238) rfl) (by decide) (rm_a29 l Z a0 hw h0 ka2 ia1 ia2 ia3 _ _ ka4 _ ka5 ka6 _ hy0 hy1 hy2) (lenOf pd_18 rfl) (hb hby d29_5) (pc' := 8) rfl (argsL := [(.ref ka2), (.int (oH ia1 ia2 ia3))]) (rest := []) rfl (by rw [hml]; rfl) (W := 0) (oLe rfl) (by decide) (cells' := 0) rfl (slots' := 0) rfl ?_
  intro T v_ d_ q_ B
  obtain ⟨rfl, rfl⟩ := q_
  show oWin p e below Z h0 _ _ (T.setTop (mkF m 8 #[.val (.ref ka1), .val (.ref ka2), .val (.ref ka3), .val (.int (0 : Int32)), .unset] [(.int (-1 : Int32))]))
  refine W_istore B (hb hby d29_8) (pc' := 10) rfl (v := (-1 : Int32)) rfl (ls' := #[.val (.ref ka1), .val (.ref ka2), .val (.ref ka3), .val (.int (0 : Int32)), .val (.int (-1 : Int32))]) rfl ?_
  refine W_iload B (hb hby d29_10) (pc' := 12) rfl rfl ?_
  refine W_ifY B (hb hby d29_12) (by decide) (pc' := 49) (by decide) (by decide) ?_
  refine W_iconst B (hb hby d29_49) (pc' := 50) rfl (z := (-1 : Int32)) (by decide) ?_
  refine W_retI B hret (hb hby d29_50) (by decide) ?_
  exact ⟨rfl, rfl⟩
theorem pd_19 : parseMethodDescriptor "(Lcom/example/tanglemark/tanglemark/datalog/Relation$Chains;[II)I" = some ⟨[(.object "com/example/tanglemark/tanglemark/datalog/Relation$Chains"), (.array .int), .int], some .int⟩ := by decide +kernel
theorem d27_17 : decode prog_45_method_14_code 17 = .ok (.ireturn, 1) := by decide +kernel
theorem ef_rm_a31 (m : MethodId) (x0 : Addr) (x1 : Addr) : entryFrame m #[(.ref x0), (.ref x1)] 2 = mkF m 0 #[.val (.ref x0), .val (.ref x1)] [] := by first | (simp [entryFrame, mkF, argsToLocals, Value.category]; done) | rfl
set_option maxRecDepth 65536 in
set_option maxHeartbeats 40000000 in
theorem rm_a31 (l : Launch) (Z : State) (a0 : Array Value) (hw : ∀ d ∈ tables_1, d.before a0 Z = true) (h0 : Heap) {lo : Nat} (ka1 : Addr) (ka2 : Addr) (e0 : Addr × oD) (e1 : Addr × oD) (ka3 : Addr) (e3 : Addr × oD) (ka4 : Addr) (ka5 : Addr) (ka6 : Addr) (e5 : Addr × oD) (e6 : Addr × oD) (e7 : Addr × oD) (e8 : Addr × oD) (ka7 : Addr) (ka8 : Addr) (ka9 : Addr) (ka10 : Addr) (e10 : Addr × oD) (e11 : Addr × oD) (e12 : Addr × oD) (ia1 : Int32) (ia2 : Int32) (ia3 : Int32) (ds : oDs) (hy0 : oHd0.length.toInt32 = (16 : Int32)) (hy1 : oHd0[((oH ia1 ia2 ia3) &&& (15 : Int32)).toNatClampNeg]? = some (.int (-1 : Int32))) (hy2 : ¬ ((oH ia1 ia2 ia3) &&& (15 : Int32)) < (0 : Int32)) :
    oMet l Z h0 lo (⟨"com/example/tanglemark/tanglemark/datalog/Relation", "row", "([I)I"⟩ : MethodName) prog_45_method_14_code 2 (some .int) [] ({ frames := 3, cells := 0, slots := 0, locals := 47 } : Room) #[(.ref ka1), (.ref ka2)] (e0 :: e1 :: (ka3, oA .int oHd0) :: e3 :: (ka4, oO cn3 [(fk18, (.ref ka5)), (fk19, (.ref ka3)), (fk20, (.ref ka6))]) :: e5 :: e6 :: e7 :: e8 :: (ka1, oO cn0 [(fk0, (.ref ka7)), (fk1, (.ref ka8)), (fk2, (.int (3 : Int32))), (fk3, (.int (2147483639 : Int32))), (fk4, (.int (1073741824 : Int32))), (fk5, (.ref ka9)), (fk6, (.ref ka10)), (fk7, .null), (fk8, (.int (0 : Int32))), (fk9, (.int (0 : Int32))), (fk10, (.ref ka4))]) :: e10 :: e11 :: e12 :: (ka2, oA .int [(.int ia1), (.int ia2), (.int ia3)]) :: ds) (fun (v : Option Value) (d : oDs) => (v = some (.int (-1 : Int32)) ∧ (e0 :: e1 :: (ka3, oA .int oHd0) :: e3 :: (ka4, oO cn3 [(fk18, (.ref ka5)), (fk19, (.ref ka3)), (fk20, (.ref ka6))]) :: e5 :: e6 :: e7 :: e8 :: (ka1, oO cn0 [(fk0, (.ref ka7)), (fk1, (.ref ka8)), (fk2, (.int (3 : Int32))), (fk3, (.int (2147483639 : Int32))), (fk4, (.int (1073741824 : Int32))), (fk5, (.ref ka9)), (fk6, (.ref ka10)), (fk7, .null), (fk8, (.int (0 : Int32))), (fk9, (.int (0 : Int32))), (fk10, (.ref ka4))]) :: e10 :: e11 :: e12 :: (ka2, oA .int [(.int ia1), (.int ia2), (.int ia3)]) :: ds) = d)) := by
  refine oMet.of_body (plainFor_of_name pn_9) ?_
  intro p e s m below meth c T B hby hml hown hnm hret
  refine W_entry (ef_rm_a31 m ka1 ka2) ?_
  refine W_aloadN B (hb hby d27_0) (pc' := 1) rfl rfl rfl ?_
  refine W_privateS B (y := (⟨"com/example/tanglemark/tanglemark/datalog/Relation", "requireOpen", "()V"⟩ : MethodName)) hown (ow hw (i := 217) rfl) (ow hw (i := 218) rfl) (ow hw (i := 2) rfl) (ow hw (i := 219) rfl) (ow hw (i := 3) rfl) (ow hw (i := 220) rfl) (by decide) (a := ka1) (rm_a23 l Z a0 hw h0 ka1 _ _ _ _ _ _ _ _ _ ka7 ka8 ka9 ka10 ka4 _ ) (lenOf pd_0 rfl) (hb hby d27_1) (pc' := 4) rfl (argsL := []) (rest := []) rfl (by rw [hml]; rfl) (W := 0) (oLe rfl) (j := 9) rfl (by decide) (cells' := 0) rfl (slots' := 0) rfl ?_
  intro T v_ d_ q_ B
  obtain ⟨rfl, rfl⟩ := q_
  show oWin p e below Z h0 _ _ (T.setTop (mkF m 4 #[.val (.ref ka1), .val (.ref ka2)] []))
  refine W_aloadN B (hb hby d27_4) (pc' := 5) rfl rfl rfl ?_
  refine W_aloadN B (hb hby d27_5) (pc' := 6) rfl rfl rfl ?_
  refine W_getfield B hown (host := "") (Or.inl (ow hw (i := 200) rfl)) Via.refl (hb hby d27_6) (pc' := 9) rfl (j := 9) rfl (q := 10) rfl ?_
  intro T B
  refine W_aloadN B (hb hby d27_9) (pc' := 10) rfl rfl rfl ?_
  refine W_aloadN B (hb hby d27_10) (pc' := 11) rfl rfl rfl ?_
  refine W_getfield B hown (host := "") (Or.inl (ow hw (i := 198) rfl)) Via.refl (hb hby d27_11) (pc' := 14) rfl (j := 9) rfl (q := 9) rfl ?_
  intro T B
  refine W_virtual B (y := (⟨"com/example/tanglemark/tanglemark/datalog/Relation", "newest", "(Lcom/example/tanglemark/tanglemark/datalog/Relation$Chains;[II)I"⟩ : MethodName)) (z := (⟨"com/example/tanglemark/tanglemark/datalog/Relation", "newest", "(Lcom/example/tanglemark/tanglemark/datalog/Relation$Chains;[II)I"⟩ : MethodName)) hown (ow hw (i := 221) rfl) (ow hw (i := 222) rfl) (oNotFace B (ow hw (i := 224) rfl) rfl) (ow hw (i := 224) rfl) (ow hw (i := 223) rfl) (ow hw (i := 3) rfl) (ow hw (i := 225) rfl) (by decide) (a := ka1) (rm_a30 l Z a0 hw h0 ka1 ka4 ka2 _ _ ka3 _ ka5 ka6 _ _ _ _ _ _ _ _ ia1 ia2 ia3 _ hy0 hy1 hy2) (lenOf pd_19 rfl) (hb hby d27_14) (pc' := 17) rfl (argsL := [(.ref ka4), (.ref ka2), (.int (0 : Int32))]) (rest := []) rfl (by rw [hml]; rfl) (W := 0) (oLe rfl) (j := 9) rfl (by decide) (cells' := 0) rfl (slots' := 0) rfl ?_
  intro T v_ d_ q_ B
  obtain ⟨rfl, rfl⟩ := q_
  show oWin p e below Z h0 _ _ (T.setTop (mkF m 17 #[.val (.ref ka1), .val (.ref ka2)] [(.int (-1 : Int32))]))
  refine W_retI B hret (hb hby d27_17) (by decide) ?_
  exact ⟨rfl, rfl⟩
theorem d26_5 : decode prog_45_method_13_code 5 = .ok (.ifCond .lt 7, 3) := by decide +kernel
theorem d26_12 : decode prog_45_method_13_code 12 = .ok (.iconst 0, 1) := by decide +kernel
theorem d26_13 : decode prog_45_method_13_code 13 = .ok (.ireturn, 1) := by decide +kernel
theorem ef_rm_a32 (m : MethodId) (x0 : Addr) (x1 : Addr) : entryFrame m #[(.ref x0), (.ref x1)] 2 = mkF m 0 #[.val (.ref x0), .val (.ref x1)] [] := by first | (simp [entryFrame, mkF, argsToLocals, Value.category]; done) | rfl
set_option maxRecDepth 65536 in
set_option maxHeartbeats 40000000 in
theorem rm_a32 (l : Launch) (Z : State) (a0 : Array Value) (hw : ∀ d ∈ tables_1, d.before a0 Z = true) (h0 : Heap) {lo : Nat} (ka1 : Addr) (ka2 : Addr) (e0 : Addr × oD) (e1 : Addr × oD) (ka3 : Addr) (e3 : Addr × oD) (ka4 : Addr) (ka5 : Addr) (ka6 : Addr) (e5 : Addr × oD) (e6 : Addr × oD) (e7 : Addr × oD) (e8 : Addr × oD) (ka7 : Addr) (ka8 : Addr) (ka9 : Addr) (ka10 : Addr) (e10 : Addr × oD) (e11 : Addr × oD) (e12 : Addr × oD) (ia1 : Int32) (ia2 : Int32) (ia3 : Int32) (ds : oDs) (hy0 : oHd0.length.toInt32 = (16 : Int32)) (hy1 : oHd0[((oH ia1 ia2 ia3) &&& (15 : Int32)).toNatClampNeg]? = some (.int (-1 : Int32))) (hy2 : ¬ ((oH ia1 ia2 ia3) &&& (15 : Int32)) < (0 : Int32)) :
    oMet l Z h0 lo (⟨"com/example/tanglemark/tanglemark/datalog/Relation", "contains", "([I)Z"⟩ : MethodName) prog_45_method_13_code 2 (some .boolean) [] ({ frames := 4, cells := 0, slots := 0, locals := 60 } : Room) #[(.ref ka1), (.ref ka2)] (e0 :: e1 :: (ka3, oA .int oHd0) :: e3 :: (ka4, oO cn3 [(fk18, (.ref ka5)), (fk19, (.ref ka3)), (fk20, (.ref ka6))]) :: e5 :: e6 :: e7 :: e8 :: (ka1, oO cn0 [(fk0, (.ref ka7)), (fk1, (.ref ka8)), (fk2, (.int (3 : Int32))), (fk3, (.int (2147483639 : Int32))), (fk4, (.int (1073741824 : Int32))), (fk5, (.ref ka9)), (fk6, (.ref ka10)), (fk7, .null), (fk8, (.int (0 : Int32))), (fk9, (.int (0 : Int32))), (fk10, (.ref ka4))]) :: e10 :: e11 :: e12 :: (ka2, oA .int [(.int ia1), (.int ia2), (.int ia3)]) :: ds) (fun (v : Option Value) (d : oDs) => (v = some (.int (0 : Int32)) ∧ (e0 :: e1 :: (ka3, oA .int oHd0) :: e3 :: (ka4, oO cn3 [(fk18, (.ref ka5)), (fk19, (.ref ka3)), (fk20, (.ref ka6))]) :: e5 :: e6 :: e7 :: e8 :: (ka1, oO cn0 [(fk0, (.ref ka7)), (fk1, (.ref ka8)), (fk2, (.int (3 : Int32))), (fk3, (.int (2147483639 : Int32))), (fk4, (.int (1073741824 : Int32))), (fk5, (.ref ka9)), (fk6, (.ref ka10)), (fk7, .null), (fk8, (.int (0 : Int32))), (fk9, (.int (0 : Int32))), (fk10, (.ref ka4))]) :: e10 :: e11 :: e12 :: (ka2, oA .int [(.int ia1), (.int ia2), (.int ia3)]) :: ds) = d)) := by
  refine oMet.of_body (plainFor_of_name pn_9) ?_
  intro p e s m below meth c T B hby hml hown hnm hret
  refine W_entry (ef_rm_a32 m ka1 ka2) ?_
  refine W_aloadN B (hb hby d26_0) (pc' := 1) rfl rfl rfl ?_
  refine W_aloadN B (hb hby d26_1) (pc' := 2) rfl rfl rfl ?_
  refine W_virtual B (y := (⟨"com/example/tanglemark/tanglemark/datalog/Relation", "row", "([I)I"⟩ : MethodName)) (z := (⟨"com/example/tanglemark/tanglemark/datalog/Relation", "row", "([I)I"⟩ : MethodName)) hown (ow hw (i := 212) rfl) (ow hw (i := 213) rfl) (oNotFace B (ow hw (i := 215) rfl) rfl) (ow hw (i := 215) rfl) (ow hw (i := 214) rfl) (ow hw (i := 3) rfl) (ow hw (i := 216) rfl) (by decide) (a := ka1) (rm_a31 l Z a0 hw h0 ka1 ka2 _ _ ka3 _ ka4 ka5 ka6 _ _ _ _ ka7 ka8 ka9 ka10 _ _ _ ia1 ia2 ia3 _ hy0 hy1 hy2) (lenOf pd_17 rfl) (hb hby d26_2) (pc' := 5) rfl (argsL := [(.ref ka2)]) (rest := []) rfl (by rw [hml]; rfl) (W := 0) (oLe rfl) (j := 9) rfl (by decide) (cells' := 0) rfl (slots' := 0) rfl ?_
  intro T v_ d_ q_ B
  obtain ⟨rfl, rfl⟩ := q_
  show oWin p e below Z h0 _ _ (T.setTop (mkF m 5 #[.val (.ref ka1), .val (.ref ka2)] [(.int (-1 : Int32))]))
  refine W_ifY B (hb hby d26_5) (by decide) (pc' := 12) (by decide) (by decide) ?_
  refine W_iconst B (hb hby d26_12) (pc' := 13) rfl (z := (0 : Int32)) (by decide) ?_
  refine W_retN B hret (by simp) (hb hby d26_13) (by decide) ?_
  exact ⟨rfl, rfl⟩
theorem pd_20 : parseMethodDescriptor "([I)Z" = some ⟨[(.array .int)], some .boolean⟩ := by decide +kernel
theorem d25_5 : decode prog_45_method_8_code 5 = .ok (.ifCond .eq 5, 3) := by decide +kernel
theorem d25_10 : decode prog_45_method_8_code 10 = .ok (.aload_n 0, 1) := by decide +kernel
theorem d25_11 : decode prog_45_method_8_code 11 = .ok (.aload_n 1, 1) := by decide +kernel
theorem d25_12 : decode prog_45_method_8_code 12 = .ok (.invokevirtual 112, 3) := by decide +kernel
theorem d34_0 : decode prog_45_method_9_code 0 = .ok (.aload_n 0, 1) := by decide +kernel
theorem d34_1 : decode prog_45_method_9_code 1 = .ok (.invokevirtual 116, 3) := by decide +kernel
theorem d34_4 : decode prog_45_method_9_code 4 = .ok (.aload_n 0, 1) := by decide +kernel
theorem d34_5 : decode prog_45_method_9_code 5 = .ok (.getfield 92, 3) := by decide +kernel
theorem d34_8 : decode prog_45_method_9_code 8 = .ok (.iconst 1, 1) := by decide +kernel
theorem d34_9 : decode prog_45_method_9_code 9 = .ok (.iadd, 1) := by decide +kernel
theorem d34_10 : decode prog_45_method_9_code 10 = .ok (.i2l, 1) := by decide +kernel
theorem d34_11 : decode prog_45_method_9_code 11 = .ok (.aload_n 0, 1) := by decide +kernel
theorem d34_12 : decode prog_45_method_9_code 12 = .ok (.getfield 26, 3) := by decide +kernel
theorem d34_15 : decode prog_45_method_9_code 15 = .ok (.i2l, 1) := by decide +kernel
theorem d34_16 : decode prog_45_method_9_code 16 = .ok (.lmul, 1) := by decide +kernel
theorem d34_17 : decode prog_45_method_9_code 17 = .ok (.aload_n 0, 1) := by decide +kernel
theorem d34_18 : decode prog_45_method_9_code 18 = .ok (.getfield 46, 3) := by decide +kernel
theorem d34_21 : decode prog_45_method_9_code 21 = .ok (.arraylength, 1) := by decide +kernel
theorem d34_22 : decode prog_45_method_9_code 22 = .ok (.i2l, 1) := by decide +kernel
theorem d34_23 : decode prog_45_method_9_code 23 = .ok (.lcmp, 1) := by decide +kernel
theorem d34_24 : decode prog_45_method_9_code 24 = .ok (.ifCond .le 61, 3) := by decide +kernel
theorem d34_85 : decode prog_45_method_9_code 85 = .ok (.aload_n 1, 1) := by decide +kernel
theorem d34_86 : decode prog_45_method_9_code 86 = .ok (.iconst 0, 1) := by decide +kernel
theorem d34_87 : decode prog_45_method_9_code 87 = .ok (.aload_n 0, 1) := by decide +kernel
theorem d34_88 : decode prog_45_method_9_code 88 = .ok (.getfield 46, 3) := by decide +kernel
theorem d34_91 : decode prog_45_method_9_code 91 = .ok (.aload_n 0, 1) := by decide +kernel
theorem d34_92 : decode prog_45_method_9_code 92 = .ok (.getfield 92, 3) := by decide +kernel
theorem d34_95 : decode prog_45_method_9_code 95 = .ok (.aload_n 0, 1) := by decide +kernel
theorem d34_96 : decode prog_45_method_9_code 96 = .ok (.getfield 26, 3) := by decide +kernel
theorem d34_99 : decode prog_45_method_9_code 99 = .ok (.imul, 1) := by decide +kernel
theorem d34_100 : decode prog_45_method_9_code 100 = .ok (.aload_n 0, 1) := by decide +kernel
theorem d34_101 : decode prog_45_method_9_code 101 = .ok (.getfield 26, 3) := by decide +kernel
theorem d34_104 : decode prog_45_method_9_code 104 = .ok (.invokestatic 132, 3) := by decide +kernel
theorem d34_107 : decode prog_45_method_9_code 107 = .ok (.aload_n 0, 1) := by decide +kernel
theorem d34_108 : decode prog_45_method_9_code 108 = .ok (.dup, 1) := by decide +kernel
theorem d34_109 : decode prog_45_method_9_code 109 = .ok (.getfield 92, 3) := by decide +kernel
theorem d34_112 : decode prog_45_method_9_code 112 = .ok (.dup_x1, 1) := by decide +kernel
theorem d34_113 : decode prog_45_method_9_code 113 = .ok (.iconst 1, 1) := by decide +kernel
theorem d34_114 : decode prog_45_method_9_code 114 = .ok (.iadd, 1) := by decide +kernel
theorem d34_115 : decode prog_45_method_9_code 115 = .ok (.putfield 92, 3) := by decide +kernel
theorem d34_118 : decode prog_45_method_9_code 118 = .ok (.istore_n 2, 1) := by decide +kernel
theorem d34_119 : decode prog_45_method_9_code 119 = .ok (.aload_n 0, 1) := by decide +kernel
theorem d34_120 : decode prog_45_method_9_code 120 = .ok (.getfield 18, 3) := by decide +kernel
theorem d34_123 : decode prog_45_method_9_code 123 = .ok (.invokeinterface 138 1, 5) := by decide +kernel
theorem ef_rm_a33 (m : MethodId) (x0 : Addr) (x1 : Addr) : entryFrame m #[(.ref x0), (.ref x1)] 2 = mkF m 0 #[.val (.ref x0), .val (.ref x1)] [] := by first | (simp [entryFrame, mkF, argsToLocals, Value.category]; done) | rfl
set_option maxRecDepth 65536 in
set_option maxHeartbeats 40000000 in
theorem rm_a33 (l : Launch) (Z : State) (a0 : Array Value) (hw : ∀ d ∈ tables_1, d.before a0 Z = true) (h0 : Heap) {lo : Nat} (ka1 : Addr) (ka2 : Addr) (e1 : Addr × oD) (e2 : Addr × oD) (e3 : Addr × oD) (e4 : Addr × oD) (e5 : Addr × oD) (e6 : Addr × oD) (e7 : Addr × oD) (e8 : Addr × oD) (ka3 : Addr) (ds : oDs) :
    oMet l Z h0 lo (⟨"java/util/ArrayList$Itr", "<init>", "(Ljava/util/ArrayList;)V"⟩ : MethodName) jdk_49_method_1_code 2 none [] ({ frames := 1, cells := 0, slots := 0, locals := 12 } : Room) #[(.ref ka1), (.ref ka2)] ((ka1, oO cn2 [(fk14, .null), (fk15, (.int (0 : Int32))), (fk16, (.int (0 : Int32))), (fk17, (.int (0 : Int32)))]) :: e1 :: e2 :: e3 :: e4 :: e5 :: e6 :: e7 :: e8 :: (ka2, oO cn1 [(fk11, (.int (1 : Int32))), (fk12, (.ref ka3)), (fk13, (.int (1 : Int32)))]) :: ds) (fun (v : Option Value) (d : oDs) => (v = none ∧ ((ka1, oO cn2 [(fk14, (.ref ka2)), (fk15, (.int (-1 : Int32))), (fk16, (.int (1 : Int32))), (fk17, (.int (0 : Int32)))]) :: e1 :: e2 :: e3 :: e4 :: e5 :: e6 :: e7 :: e8 :: (ka2, oO cn1 [(fk11, (.int (1 : Int32))), (fk12, (.ref ka3)), (fk13, (.int (1 : Int32)))]) :: ds) = d)) := by
  refine oMet.of_body (plainFor_of_name pn_6) ?_
  intro p e s m below meth c T B hby hml hown hnm hret
  refine W_entry (ef_rm_a33 m ka1 ka2) ?_
  refine W_aloadN B (hb hby d15_0) (pc' := 1) rfl rfl rfl ?_
  refine W_aloadN B (hb hby d15_1) (pc' := 2) rfl rfl rfl ?_
  refine W_putfield B hown (host := "") (Or.inl (ow hw (i := 110) rfl)) Via.refl (hb hby d15_2) (pc' := 5) rfl (Or.inr ⟨(ow hw (i := 111) rfl), rfl, hnm⟩) (ow hw (i := 104) rfl) (ty := (.object "java/util/ArrayList")) (by decide) rfl rfl (j := 0) rfl (q := 0) rfl (ds' := ((ka1, oO cn2 [(fk14, (.ref ka2)), (fk15, (.int (0 : Int32))), (fk16, (.int (0 : Int32))), (fk17, (.int (0 : Int32)))]) :: e1 :: e2 :: e3 :: e4 :: e5 :: e6 :: e7 :: e8 :: (ka2, oO cn1 [(fk11, (.int (1 : Int32))), (fk12, (.ref ka3)), (fk13, (.int (1 : Int32)))]) :: ds)) rfl ?_
  intro T B
  refine W_aloadN B (hb hby d15_5) (pc' := 6) rfl rfl rfl ?_
  refine W_initO B hown (ow hw (i := 112) rfl) (ow hw (i := 20) rfl) (ow hw (i := 21) rfl) (hb hby d15_6) (pc' := 9) rfl (by rw [hml]; rfl) (W := 0) (oLe rfl) (by decide) ?_
  intro T B
  refine W_aloadN B (hb hby d15_9) (pc' := 10) rfl rfl rfl ?_
  refine W_iconst B (hb hby d15_10) (pc' := 11) rfl (z := (-1 : Int32)) (by decide) ?_
  refine W_putfield B hown (host := "") (Or.inl (ow hw (i := 113) rfl)) Via.refl (hb hby d15_11) (pc' := 14) rfl (Or.inl (ow hw (i := 114) rfl)) (ow hw (i := 104) rfl) (ty := .int) (by decide) rfl rfl (j := 0) rfl (q := 1) rfl (ds' := ((ka1, oO cn2 [(fk14, (.ref ka2)), (fk15, (.int (-1 : Int32))), (fk16, (.int (0 : Int32))), (fk17, (.int (0 : Int32)))]) :: e1 :: e2 :: e3 :: e4 :: e5 :: e6 :: e7 :: e8 :: (ka2, oO cn1 [(fk11, (.int (1 : Int32))), (fk12, (.ref ka3)), (fk13, (.int (1 : Int32)))]) :: ds)) rfl ?_
  intro T B
  refine W_aloadN B (hb hby d15_14) (pc' := 15) rfl rfl rfl ?_
  refine W_aloadN B (hb hby d15_15) (pc' := 16) rfl rfl rfl ?_
  refine W_getfield B hown (host := "") (Or.inl (ow hw (i := 110) rfl)) Via.refl (hb hby d15_16) (pc' := 19) rfl (j := 0) rfl (q := 0) rfl ?_
  intro T B
  refine W_getfield B hown (host := "") (Or.inl (ow hw (i := 115) rfl)) (Via.of (ow hw (i := 116) rfl)) (hb hby d15_19) (pc' := 22) rfl (j := 9) rfl (q := 0) rfl ?_
  intro T B
  refine W_putfield B hown (host := "") (Or.inl (ow hw (i := 117) rfl)) Via.refl (hb hby d15_22) (pc' := 25) rfl (Or.inl (ow hw (i := 118) rfl)) (ow hw (i := 104) rfl) (ty := .int) (by decide) rfl rfl (j := 0) rfl (q := 2) rfl (ds' := ((ka1, oO cn2 [(fk14, (.ref ka2)), (fk15, (.int (-1 : Int32))), (fk16, (.int (1 : Int32))), (fk17, (.int (0 : Int32)))]) :: e1 :: e2 :: e3 :: e4 :: e5 :: e6 :: e7 :: e8 :: (ka2, oO cn1 [(fk11, (.int (1 : Int32))), (fk12, (.ref ka3)), (fk13, (.int (1 : Int32)))]) :: ds)) rfl ?_
  intro T B
  refine W_retV B hret (hb hby d15_25) (by decide) ?_
  exact ⟨rfl, rfl⟩
theorem ef_rm_a34 (m : MethodId) (x0 : Addr) : entryFrame m #[(.ref x0)] 1 = mkF m 0 #[.val (.ref x0)] [] := by first | (simp [entryFrame, mkF, argsToLocals, Value.category]; done) | rfl
set_option maxRecDepth 65536 in
set_option maxHeartbeats 40000000 in
theorem rm_a34 (l : Launch) (Z : State) (a0 : Array Value) (hw : ∀ d ∈ tables_1, d.before a0 Z = true) (h0 : Heap) {lo : Nat} (ka1 : Addr) (e0 : Addr × oD) (e1 : Addr × oD) (e2 : Addr × oD) (e3 : Addr × oD) (e4 : Addr × oD) (e5 : Addr × oD) (e6 : Addr × oD) (e7 : Addr × oD) (ka2 : Addr) (ds : oDs) :
    oMet l Z h0 lo (⟨"java/util/ArrayList", "iterator", "()Ljava/util/Iterator;"⟩ : MethodName) jdk_38_method_55_code 1 (some (.object "java/util/Iterator")) [] ({ frames := 2, cells := 1, slots := 4, locals := 26 } : Room) #[(.ref ka1)] (e0 :: e1 :: e2 :: e3 :: e4 :: e5 :: e6 :: e7 :: (ka1, oO cn1 [(fk11, (.int (1 : Int32))), (fk12, (.ref ka2)), (fk13, (.int (1 : Int32)))]) :: ds) (fun (v : Option Value) (d : oDs) => (∃ (b136 : Addr), v = some (.ref b136) ∧ ((b136, oO cn2 [(fk14, (.ref ka1)), (fk15, (.int (-1 : Int32))), (fk16, (.int (1 : Int32))), (fk17, (.int (0 : Int32)))]) :: e0 :: e1 :: e2 :: e3 :: e4 :: e5 :: e6 :: e7 :: (ka1, oO cn1 [(fk11, (.int (1 : Int32))), (fk12, (.ref ka2)), (fk13, (.int (1 : Int32)))]) :: ds) = d)) := by
  refine oMet.of_body (plainFor_of_name pn_2) ?_
  intro p e s m below meth c T B hby hml hown hnm hret
  refine W_entry (ef_rm_a34 m ka1) ?_
  refine W_new B hown (ow hw (i := 103) rfl) (ow hw (i := 104) rfl) (ow hw (i := 105) rfl) (hb hby d14_0) (pc' := 3) rfl (by decide) (cells' := 1) rfl (slots' := 4) rfl (fs := [(fk14, .null), (fk15, (.int (0 : Int32))), (fk16, (.int (0 : Int32))), (fk17, (.int (0 : Int32)))]) (oAll_cons ⟨Or.inr (ow hw (i := 111) rfl), (.object "java/util/ArrayList"), by decide, rfl⟩ (oAll_cons ⟨Or.inl (ow hw (i := 114) rfl), .int, by decide, rfl⟩ (oAll_cons ⟨Or.inl (ow hw (i := 118) rfl), .int, by decide, rfl⟩ (oAll_cons ⟨Or.inl (ow hw (i := 129) rfl), .int, by decide, rfl⟩ oAll_nil)))) (by decide) ?_
  intro T b136 B
  refine W_dup B (hb hby d14_3) (pc' := 4) rfl rfl ?_
  refine W_aloadN B (hb hby d14_4) (pc' := 5) rfl rfl rfl ?_
  refine W_init B (y := (⟨"java/util/ArrayList$Itr", "<init>", "(Ljava/util/ArrayList;)V"⟩ : MethodName)) hown rfl (ow hw (i := 106) rfl) (ow hw (i := 107) rfl) (ow hw (i := 105) rfl) (ow hw (i := 109) rfl) (by decide) (a := b136) (rm_a33 l Z a0 hw h0 b136 ka1 _ _ _ _ _ _ _ _ ka2 _ ) (lenOf pd_5 rfl) (hb hby d14_5) (pc' := 8) rfl (argsL := [(.ref ka1)]) (rest := [(.ref b136)]) rfl (by rw [hml]; rfl) (W := 1) (oLe rfl) (by decide) (cells' := 1) rfl (slots' := 4) rfl ?_
  intro T v_ d_ q_ B
  obtain ⟨rfl, rfl⟩ := q_
  show oWin p e below Z h0 _ _ (T.setTop (mkF m 8 #[.val (.ref ka1)] [(.ref b136)]))
  refine W_retA B hret rfl rfl (hb hby d14_8) (by decide) ?_
  exact ⟨b136, rfl, rfl⟩
theorem d34_128 : decode prog_45_method_9_code 128 = .ok (.astore_n 3, 1) := by decide +kernel
theorem d34_129 : decode prog_45_method_9_code 129 = .ok (.aload_n 3, 1) := by decide +kernel
theorem d34_130 : decode prog_45_method_9_code 130 = .ok (.invokeinterface 144 1, 5) := by decide +kernel
theorem d16_14 : decode jdk_49_method_2_code 14 = .ok (.iconst 1, 1) := by decide +kernel
theorem d16_15 : decode jdk_49_method_2_code 15 = .ok (.goto 4, 3) := by decide +kernel
theorem ef_rm_a35 (m : MethodId) (x0 : Addr) : entryFrame m #[(.ref x0)] 1 = mkF m 0 #[.val (.ref x0)] [] := by first | (simp [entryFrame, mkF, argsToLocals, Value.category]; done) | rfl
set_option maxRecDepth 65536 in
set_option maxHeartbeats 40000000 in
theorem rm_a35 (l : Launch) (Z : State) (a0 : Array Value) (hw : ∀ d ∈ tables_1, d.before a0 Z = true) (h0 : Heap) {lo : Nat} (ka1 : Addr) (ka2 : Addr) (e1 : Addr × oD) (e2 : Addr × oD) (e3 : Addr × oD) (e4 : Addr × oD) (e5 : Addr × oD) (e6 : Addr × oD) (e7 : Addr × oD) (e8 : Addr × oD) (ka3 : Addr) (ds : oDs) :
    oMet l Z h0 lo (⟨"java/util/ArrayList$Itr", "hasNext", "()Z"⟩ : MethodName) jdk_49_method_2_code 1 (some .boolean) [] ({ frames := 0, cells := 0, slots := 0, locals := 0 } : Room) #[(.ref ka1)] ((ka1, oO cn2 [(fk14, (.ref ka2)), (fk15, (.int (-1 : Int32))), (fk16, (.int (1 : Int32))), (fk17, (.int (0 : Int32)))]) :: e1 :: e2 :: e3 :: e4 :: e5 :: e6 :: e7 :: e8 :: (ka2, oO cn1 [(fk11, (.int (1 : Int32))), (fk12, (.ref ka3)), (fk13, (.int (1 : Int32)))]) :: ds) (fun (v : Option Value) (d : oDs) => (v = some (.int (1 : Int32)) ∧ ((ka1, oO cn2 [(fk14, (.ref ka2)), (fk15, (.int (-1 : Int32))), (fk16, (.int (1 : Int32))), (fk17, (.int (0 : Int32)))]) :: e1 :: e2 :: e3 :: e4 :: e5 :: e6 :: e7 :: e8 :: (ka2, oO cn1 [(fk11, (.int (1 : Int32))), (fk12, (.ref ka3)), (fk13, (.int (1 : Int32)))]) :: ds) = d)) := by
  refine oMet.of_body (plainFor_of_name pn_6) ?_
  intro p e s m below meth c T B hby hml hown hnm hret
  refine W_entry (ef_rm_a35 m ka1) ?_
  refine W_aloadN B (hb hby d16_0) (pc' := 1) rfl rfl rfl ?_
  refine W_getfield B hown (host := "") (Or.inl (ow hw (i := 128) rfl)) Via.refl (hb hby d16_1) (pc' := 4) rfl (j := 0) rfl (q := 3) rfl ?_
  intro T B
  refine W_aloadN B (hb hby d16_4) (pc' := 5) rfl rfl rfl ?_
  refine W_getfield B hown (host := "") (Or.inl (ow hw (i := 110) rfl)) Via.refl (hb hby d16_5) (pc' := 8) rfl (j := 0) rfl (q := 0) rfl ?_
  intro T B
  refine W_getfield B hown (Or.inr (ow hw (i := 130) rfl)) Via.refl (hb hby d16_8) (pc' := 11) rfl (j := 9) rfl (q := 2) rfl ?_
  intro T B
  refine W_icmpN B (hb hby d16_11) (pc' := 14) rfl (by decide) ?_
  refine W_iconst B (hb hby d16_14) (pc' := 15) rfl (z := (1 : Int32)) (by decide) ?_
  refine W_goto B (hb hby d16_15) (by decide) (pc' := 19) (by decide) ?_
  refine W_retN B hret (by simp) (hb hby d16_19) (by decide) ?_
  exact ⟨rfl, rfl⟩
theorem d34_135 : decode prog_45_method_9_code 135 = .ok (.ifCond .eq 27, 3) := by decide +kernel
theorem d34_138 : decode prog_45_method_9_code 138 = .ok (.aload_n 3, 1) := by decide +kernel
theorem d34_139 : decode prog_45_method_9_code 139 = .ok (.invokeinterface 150 1, 5) := by decide +kernel
theorem d35_0 : decode jdk_49_method_3_code 0 = .ok (.aload_n 0, 1) := by decide +kernel
theorem d35_1 : decode jdk_49_method_3_code 1 = .ok (.invokevirtual 31, 3) := by decide +kernel
theorem d36_0 : decode jdk_49_method_6_code 0 = .ok (.aload_n 0, 1) := by decide +kernel
theorem d36_1 : decode jdk_49_method_6_code 1 = .ok (.getfield 1, 3) := by decide +kernel
theorem d36_4 : decode jdk_49_method_6_code 4 = .ok (.getfield 17, 3) := by decide +kernel
theorem d36_7 : decode jdk_49_method_6_code 7 = .ok (.aload_n 0, 1) := by decide +kernel
theorem d36_8 : decode jdk_49_method_6_code 8 = .ok (.getfield 22, 3) := by decide +kernel
theorem d36_11 : decode jdk_49_method_6_code 11 = .ok (.if_icmp .eq 11, 3) := by decide +kernel
theorem d36_22 : decode jdk_49_method_6_code 22 = .ok (.return_, 1) := by decide +kernel
theorem ef_rm_a36 (m : MethodId) (x0 : Addr) : entryFrame m #[(.ref x0)] 1 = mkF m 0 #[.val (.ref x0)] [] := by first | (simp [entryFrame, mkF, argsToLocals, Value.category]; done) | rfl
set_option maxRecDepth 65536 in
set_option maxHeartbeats 40000000 in
theorem rm_a36 (l : Launch) (Z : State) (a0 : Array Value) (hw : ∀ d ∈ tables_1, d.before a0 Z = true) (h0 : Heap) {lo : Nat} (ka1 : Addr) (ka2 : Addr) (e1 : Addr × oD) (e2 : Addr × oD) (e3 : Addr × oD) (e4 : Addr × oD) (e5 : Addr × oD) (e6 : Addr × oD) (e7 : Addr × oD) (e8 : Addr × oD) (ka3 : Addr) (ds : oDs) :
    oMet l Z h0 lo (⟨"java/util/ArrayList$Itr", "checkForComodification", "()V"⟩ : MethodName) jdk_49_method_6_code 1 none [] ({ frames := 0, cells := 0, slots := 0, locals := 0 } : Room) #[(.ref ka1)] ((ka1, oO cn2 [(fk14, (.ref ka2)), (fk15, (.int (-1 : Int32))), (fk16, (.int (1 : Int32))), (fk17, (.int (0 : Int32)))]) :: e1 :: e2 :: e3 :: e4 :: e5 :: e6 :: e7 :: e8 :: (ka2, oO cn1 [(fk11, (.int (1 : Int32))), (fk12, (.ref ka3)), (fk13, (.int (1 : Int32)))]) :: ds) (fun (v : Option Value) (d : oDs) => (v = none ∧ ((ka1, oO cn2 [(fk14, (.ref ka2)), (fk15, (.int (-1 : Int32))), (fk16, (.int (1 : Int32))), (fk17, (.int (0 : Int32)))]) :: e1 :: e2 :: e3 :: e4 :: e5 :: e6 :: e7 :: e8 :: (ka2, oO cn1 [(fk11, (.int (1 : Int32))), (fk12, (.ref ka3)), (fk13, (.int (1 : Int32)))]) :: ds) = d)) := by
  refine oMet.of_body (plainFor_of_name pn_6) ?_
  intro p e s m below meth c T B hby hml hown hnm hret
  refine W_entry (ef_rm_a36 m ka1) ?_
  refine W_aloadN B (hb hby d36_0) (pc' := 1) rfl rfl rfl ?_
  refine W_getfield B hown (host := "") (Or.inl (ow hw (i := 110) rfl)) Via.refl (hb hby d36_1) (pc' := 4) rfl (j := 0) rfl (q := 0) rfl ?_
  intro T B
  refine W_getfield B hown (host := "") (Or.inl (ow hw (i := 115) rfl)) (Via.of (ow hw (i := 116) rfl)) (hb hby d36_4) (pc' := 7) rfl (j := 9) rfl (q := 0) rfl ?_
  intro T B
  refine W_aloadN B (hb hby d36_7) (pc' := 8) rfl rfl rfl ?_
  refine W_getfield B hown (host := "") (Or.inl (ow hw (i := 117) rfl)) Via.refl (hb hby d36_8) (pc' := 11) rfl (j := 0) rfl (q := 2) rfl ?_
  intro T B
  refine W_icmpY B (hb hby d36_11) (by decide) (pc' := 22) (by decide) (by decide) ?_
  refine W_retV B hret (hb hby d36_22) (by decide) ?_
  exact ⟨rfl, rfl⟩
theorem d35_4 : decode jdk_49_method_3_code 4 = .ok (.aload_n 0, 1) := by decide +kernel
theorem d35_5 : decode jdk_49_method_3_code 5 = .ok (.getfield 25, 3) := by decide +kernel
theorem d35_8 : decode jdk_49_method_3_code 8 = .ok (.istore_n 1, 1) := by decide +kernel
theorem d35_9 : decode jdk_49_method_3_code 9 = .ok (.iload_n 1, 1) := by decide +kernel
theorem d35_10 : decode jdk_49_method_3_code 10 = .ok (.aload_n 0, 1) := by decide +kernel
theorem d35_11 : decode jdk_49_method_3_code 11 = .ok (.getfield 1, 3) := by decide +kernel
theorem d35_14 : decode jdk_49_method_3_code 14 = .ok (.getfield 28, 3) := by decide +kernel
theorem d35_17 : decode jdk_49_method_3_code 17 = .ok (.if_icmp .lt 11, 3) := by decide +kernel
theorem d35_28 : decode jdk_49_method_3_code 28 = .ok (.aload_n 0, 1) := by decide +kernel
theorem d35_29 : decode jdk_49_method_3_code 29 = .ok (.getfield 1, 3) := by decide +kernel
theorem d35_32 : decode jdk_49_method_3_code 32 = .ok (.getfield 37, 3) := by decide +kernel
theorem d35_35 : decode jdk_49_method_3_code 35 = .ok (.astore_n 2, 1) := by decide +kernel
theorem d35_36 : decode jdk_49_method_3_code 36 = .ok (.iload_n 1, 1) := by decide +kernel
theorem d35_37 : decode jdk_49_method_3_code 37 = .ok (.aload_n 2, 1) := by decide +kernel
theorem d35_38 : decode jdk_49_method_3_code 38 = .ok (.arraylength, 1) := by decide +kernel
theorem d35_39 : decode jdk_49_method_3_code 39 = .ok (.if_icmp .lt 11, 3) := by decide +kernel
theorem d35_50 : decode jdk_49_method_3_code 50 = .ok (.aload_n 0, 1) := by decide +kernel
theorem d35_51 : decode jdk_49_method_3_code 51 = .ok (.iload_n 1, 1) := by decide +kernel
theorem d35_52 : decode jdk_49_method_3_code 52 = .ok (.iconst 1, 1) := by decide +kernel
theorem d35_53 : decode jdk_49_method_3_code 53 = .ok (.iadd, 1) := by decide +kernel
theorem d35_54 : decode jdk_49_method_3_code 54 = .ok (.putfield 25, 3) := by decide +kernel
theorem d35_57 : decode jdk_49_method_3_code 57 = .ok (.aload_n 2, 1) := by decide +kernel
theorem d35_58 : decode jdk_49_method_3_code 58 = .ok (.aload_n 0, 1) := by decide +kernel
theorem d35_59 : decode jdk_49_method_3_code 59 = .ok (.iload_n 1, 1) := by decide +kernel
theorem d35_60 : decode jdk_49_method_3_code 60 = .ok (.dup_x1, 1) := by decide +kernel
theorem d35_61 : decode jdk_49_method_3_code 61 = .ok (.putfield 13, 3) := by decide +kernel
theorem d35_64 : decode jdk_49_method_3_code 64 = .ok (.aaload, 1) := by decide +kernel
theorem d35_65 : decode jdk_49_method_3_code 65 = .ok (.areturn, 1) := by decide +kernel
theorem ef_rm_a37 (m : MethodId) (x0 : Addr) : entryFrame m #[(.ref x0)] 3 = mkF m 0 #[.val (.ref x0), .unset, .unset] [] := by first | (simp [entryFrame, mkF, argsToLocals, Value.category]; done) | rfl
set_option maxRecDepth 65536 in
set_option maxHeartbeats 40000000 in
theorem rm_a37 (l : Launch) (Z : State) (a0 : Array Value) (hw : ∀ d ∈ tables_1, d.before a0 Z = true) (h0 : Heap) {lo : Nat} (ka1 : Addr) (ka2 : Addr) (ka3 : Addr) (ka4 : Addr) (e2 : Addr × oD) (e3 : Addr × oD) (e4 : Addr × oD) (e5 : Addr × oD) (e6 : Addr × oD) (e7 : Addr × oD) (e8 : Addr × oD) (ds : oDs) :
    oMet l Z h0 lo (⟨"java/util/ArrayList$Itr", "next", "()Ljava/lang/Object;"⟩ : MethodName) jdk_49_method_3_code 3 (some (.object "java/lang/Object")) [] ({ frames := 1, cells := 0, slots := 0, locals := 12 } : Room) #[(.ref ka1)] ((ka1, oO cn2 [(fk14, (.ref ka2)), (fk15, (.int (-1 : Int32))), (fk16, (.int (1 : Int32))), (fk17, (.int (0 : Int32)))]) :: (ka3, oA (.object "java/lang/Object") [(.ref ka4), .null, .null, .null, .null, .null, .null, .null, .null, .null]) :: e2 :: e3 :: e4 :: e5 :: e6 :: e7 :: e8 :: (ka2, oO cn1 [(fk11, (.int (1 : Int32))), (fk12, (.ref ka3)), (fk13, (.int (1 : Int32)))]) :: ds) (fun (v : Option Value) (d : oDs) => (v = some (.ref ka4) ∧ ((ka1, oO cn2 [(fk14, (.ref ka2)), (fk15, (.int (0 : Int32))), (fk16, (.int (1 : Int32))), (fk17, (.int (1 : Int32)))]) :: (ka3, oA (.object "java/lang/Object") [(.ref ka4), .null, .null, .null, .null, .null, .null, .null, .null, .null]) :: e2 :: e3 :: e4 :: e5 :: e6 :: e7 :: e8 :: (ka2, oO cn1 [(fk11, (.int (1 : Int32))), (fk12, (.ref ka3)), (fk13, (.int (1 : Int32)))]) :: ds) = d)) := by
  refine oMet.of_body (plainFor_of_name pn_6) ?_
  intro p e s m below meth c T B hby hml hown hnm hret
  refine W_entry (ef_rm_a37 m ka1) ?_
  refine W_aloadN B (hb hby d35_0) (pc' := 1) rfl rfl rfl ?_
  refine W_virtual B (y := (⟨"java/util/ArrayList$Itr", "checkForComodification", "()V"⟩ : MethodName)) (z := (⟨"java/util/ArrayList$Itr", "checkForComodification", "()V"⟩ : MethodName)) hown (ow hw (i := 257) rfl) (ow hw (i := 258) rfl) (oNotFace B (ow hw (i := 260) rfl) rfl) (ow hw (i := 260) rfl) (ow hw (i := 259) rfl) (ow hw (i := 105) rfl) (ow hw (i := 261) rfl) (by decide) (a := ka1) (rm_a36 l Z a0 hw h0 ka1 ka2 _ _ _ _ _ _ _ _ ka3 _ ) (lenOf pd_0 rfl) (hb hby d35_1) (pc' := 4) rfl (argsL := []) (rest := []) rfl (by rw [hml]; rfl) (W := 0) (oLe rfl) (j := 0) rfl (by decide) (cells' := 0) rfl (slots' := 0) rfl ?_
  intro T v_ d_ q_ B
  obtain ⟨rfl, rfl⟩ := q_
  show oWin p e below Z h0 _ _ (T.setTop (mkF m 4 #[.val (.ref ka1), .unset, .unset] []))
  refine W_aloadN B (hb hby d35_4) (pc' := 5) rfl rfl rfl ?_
  refine W_getfield B hown (host := "") (Or.inl (ow hw (i := 128) rfl)) Via.refl (hb hby d35_5) (pc' := 8) rfl (j := 0) rfl (q := 3) rfl ?_
  intro T B
  refine W_istoreN B (hb hby d35_8) (pc' := 9) rfl (v := (0 : Int32)) rfl (ls' := #[.val (.ref ka1), .val (.int (0 : Int32)), .unset]) rfl ?_
  refine W_iloadN B (hb hby d35_9) (pc' := 10) rfl rfl ?_
  refine W_aloadN B (hb hby d35_10) (pc' := 11) rfl rfl rfl ?_
  refine W_getfield B hown (host := "") (Or.inl (ow hw (i := 110) rfl)) Via.refl (hb hby d35_11) (pc' := 14) rfl (j := 0) rfl (q := 0) rfl ?_
  intro T B
  refine W_getfield B hown (Or.inr (ow hw (i := 130) rfl)) Via.refl (hb hby d35_14) (pc' := 17) rfl (j := 9) rfl (q := 2) rfl ?_
  intro T B
  refine W_icmpY B (hb hby d35_17) (by decide) (pc' := 28) (by decide) (by decide) ?_
  refine W_aloadN B (hb hby d35_28) (pc' := 29) rfl rfl rfl ?_
  refine W_getfield B hown (host := "") (Or.inl (ow hw (i := 110) rfl)) Via.refl (hb hby d35_29) (pc' := 32) rfl (j := 0) rfl (q := 0) rfl ?_
  intro T B
  refine W_getfield B hown (host := "") (Or.inl (ow hw (i := 262) rfl)) Via.refl (hb hby d35_32) (pc' := 35) rfl (j := 9) rfl (q := 1) rfl ?_
  intro T B
  refine W_astoreN B (hb hby d35_35) (pc' := 36) rfl rfl (ls' := #[.val (.ref ka1), .val (.int (0 : Int32)), .val (.ref ka3)]) rfl ?_
  refine W_iloadN B (hb hby d35_36) (pc' := 37) rfl rfl ?_
  refine W_aloadN B (hb hby d35_37) (pc' := 38) rfl rfl rfl ?_
  refine W_arraylength B (hb hby d35_38) (pc' := 39) rfl (j := 1) rfl (z := (10 : Int32)) rfl ?_
  refine W_icmpY B (hb hby d35_39) (by decide) (pc' := 50) (by decide) (by decide) ?_
  refine W_aloadN B (hb hby d35_50) (pc' := 51) rfl rfl rfl ?_
  refine W_iloadN B (hb hby d35_51) (pc' := 52) rfl rfl ?_
  refine W_iconst B (hb hby d35_52) (pc' := 53) rfl (z := (1 : Int32)) (by decide) ?_
  refine W_iadd B (hb hby d35_53) (pc' := 54) rfl (z := (1 : Int32)) (by decide) ?_
  refine W_putfield B hown (host := "") (Or.inl (ow hw (i := 128) rfl)) Via.refl (hb hby d35_54) (pc' := 57) rfl (Or.inl (ow hw (i := 129) rfl)) (ow hw (i := 104) rfl) (ty := .int) (by decide) rfl rfl (j := 0) rfl (q := 3) rfl (ds' := ((ka1, oO cn2 [(fk14, (.ref ka2)), (fk15, (.int (-1 : Int32))), (fk16, (.int (1 : Int32))), (fk17, (.int (1 : Int32)))]) :: (ka3, oA (.object "java/lang/Object") [(.ref ka4), .null, .null, .null, .null, .null, .null, .null, .null, .null]) :: e2 :: e3 :: e4 :: e5 :: e6 :: e7 :: e8 :: (ka2, oO cn1 [(fk11, (.int (1 : Int32))), (fk12, (.ref ka3)), (fk13, (.int (1 : Int32)))]) :: ds)) rfl ?_
  intro T B
  refine W_aloadN B (hb hby d35_57) (pc' := 58) rfl rfl rfl ?_
  refine W_aloadN B (hb hby d35_58) (pc' := 59) rfl rfl rfl ?_
  refine W_iloadN B (hb hby d35_59) (pc' := 60) rfl rfl ?_
  refine W_dupX1 B (hb hby d35_60) (pc' := 61) rfl rfl rfl ?_
  refine W_putfield B hown (host := "") (Or.inl (ow hw (i := 113) rfl)) Via.refl (hb hby d35_61) (pc' := 64) rfl (Or.inl (ow hw (i := 114) rfl)) (ow hw (i := 104) rfl) (ty := .int) (by decide) rfl rfl (j := 0) rfl (q := 1) rfl (ds' := ((ka1, oO cn2 [(fk14, (.ref ka2)), (fk15, (.int (0 : Int32))), (fk16, (.int (1 : Int32))), (fk17, (.int (1 : Int32)))]) :: (ka3, oA (.object "java/lang/Object") [(.ref ka4), .null, .null, .null, .null, .null, .null, .null, .null, .null]) :: e2 :: e3 :: e4 :: e5 :: e6 :: e7 :: e8 :: (ka2, oO cn1 [(fk11, (.int (1 : Int32))), (fk12, (.ref ka3)), (fk13, (.int (1 : Int32)))]) :: ds)) rfl ?_
  intro T B
  refine W_aaload B (hb hby d35_64) (pc' := 65) rfl (i := 1) rfl rfl (by decide) (v := (.ref ka4)) rfl ?_
  refine W_retA B hret rfl rfl (hb hby d35_65) (by decide) ?_
  exact ⟨rfl, rfl⟩
theorem pd_21 : parseMethodDescriptor "()Ljava/lang/Object;" = some ⟨[], some (.object "java/lang/Object")⟩ := by decide +kernel
theorem d34_144 : decode prog_45_method_9_code 144 = .ok (.checkcast 154, 3) := by decide +kernel
theorem d34_147 : decode prog_45_method_9_code 147 = .ok (.astore 4, 2) := by decide +kernel
theorem d34_149 : decode prog_45_method_9_code 149 = .ok (.aload_n 0, 1) := by decide +kernel
theorem d34_150 : decode prog_45_method_9_code 150 = .ok (.aload 4, 2) := by decide +kernel
theorem d34_152 : decode prog_45_method_9_code 152 = .ok (.checkcast 67, 3) := by decide +kernel
theorem d34_155 : decode prog_45_method_9_code 155 = .ok (.iload_n 2, 1) := by decide +kernel
theorem d34_156 : decode prog_45_method_9_code 156 = .ok (.invokevirtual 156, 3) := by decide +kernel
theorem d37_0 : decode prog_45_method_34_code 0 = .ok (.iload_n 2, 1) := by decide +kernel
theorem d37_1 : decode prog_45_method_34_code 1 = .ok (.aload_n 1, 1) := by decide +kernel
theorem d37_2 : decode prog_45_method_34_code 2 = .ok (.getfield 292, 3) := by decide +kernel
theorem d37_5 : decode prog_45_method_34_code 5 = .ok (.arraylength, 1) := by decide +kernel
theorem d37_6 : decode prog_45_method_34_code 6 = .ok (.if_icmp .lt 33, 3) := by decide +kernel
theorem d37_39 : decode prog_45_method_34_code 39 = .ok (.iload_n 2, 1) := by decide +kernel
theorem d37_40 : decode prog_45_method_34_code 40 = .ok (.aload_n 1, 1) := by decide +kernel
theorem d37_41 : decode prog_45_method_34_code 41 = .ok (.getfield 289, 3) := by decide +kernel
theorem d37_44 : decode prog_45_method_34_code 44 = .ok (.arraylength, 1) := by decide +kernel
theorem d37_45 : decode prog_45_method_34_code 45 = .ok (.if_icmp .lt 55, 3) := by decide +kernel
theorem d37_100 : decode prog_45_method_34_code 100 = .ok (.aload_n 0, 1) := by decide +kernel
theorem d37_101 : decode prog_45_method_34_code 101 = .ok (.aload_n 1, 1) := by decide +kernel
theorem d37_102 : decode prog_45_method_34_code 102 = .ok (.iload_n 2, 1) := by decide +kernel
theorem d37_103 : decode prog_45_method_34_code 103 = .ok (.invokevirtual 305, 3) := by decide +kernel
theorem d38_0 : decode prog_45_method_35_code 0 = .ok (.aload_n 0, 1) := by decide +kernel
theorem d38_1 : decode prog_45_method_35_code 1 = .ok (.aload_n 1, 1) := by decide +kernel
theorem d38_2 : decode prog_45_method_35_code 2 = .ok (.getfield 193, 3) := by decide +kernel
theorem d38_5 : decode prog_45_method_35_code 5 = .ok (.iload_n 2, 1) := by decide +kernel
theorem d38_6 : decode prog_45_method_35_code 6 = .ok (.invokevirtual 253, 3) := by decide +kernel
theorem d39_0 : decode prog_45_method_31_code 0 = .ok (.iconst 0, 1) := by decide +kernel
theorem d39_1 : decode prog_45_method_31_code 1 = .ok (.istore_n 3, 1) := by decide +kernel
theorem d39_2 : decode prog_45_method_31_code 2 = .ok (.aload_n 1, 1) := by decide +kernel
theorem d39_3 : decode prog_45_method_31_code 3 = .ok (.astore 4, 2) := by decide +kernel
theorem d39_5 : decode prog_45_method_31_code 5 = .ok (.aload 4, 2) := by decide +kernel
theorem d39_7 : decode prog_45_method_31_code 7 = .ok (.arraylength, 1) := by decide +kernel
theorem d39_8 : decode prog_45_method_31_code 8 = .ok (.istore 5, 2) := by decide +kernel
theorem d39_10 : decode prog_45_method_31_code 10 = .ok (.iconst 0, 1) := by decide +kernel
theorem d39_11 : decode prog_45_method_31_code 11 = .ok (.istore 6, 2) := by decide +kernel
theorem d39_13 : decode prog_45_method_31_code 13 = .ok (.iload 6, 2) := by decide +kernel
theorem d39_15 : decode prog_45_method_31_code 15 = .ok (.iload 5, 2) := by decide +kernel
theorem d39_17 : decode prog_45_method_31_code 17 = .ok (.if_icmp .ge 35, 3) := by decide +kernel
theorem d39_20 : decode prog_45_method_31_code 20 = .ok (.aload 4, 2) := by decide +kernel
theorem d39_22 : decode prog_45_method_31_code 22 = .ok (.iload 6, 2) := by decide +kernel
theorem d39_24 : decode prog_45_method_31_code 24 = .ok (.iaload, 1) := by decide +kernel
theorem d39_25 : decode prog_45_method_31_code 25 = .ok (.istore 7, 2) := by decide +kernel
theorem d39_27 : decode prog_45_method_31_code 27 = .ok (.iload_n 3, 1) := by decide +kernel
theorem d39_28 : decode prog_45_method_31_code 28 = .ok (.aload_n 0, 1) := by decide +kernel
theorem d39_29 : decode prog_45_method_31_code 29 = .ok (.getfield 46, 3) := by decide +kernel
theorem d39_32 : decode prog_45_method_31_code 32 = .ok (.iload_n 2, 1) := by decide +kernel
theorem d39_33 : decode prog_45_method_31_code 33 = .ok (.aload_n 0, 1) := by decide +kernel
theorem d39_34 : decode prog_45_method_31_code 34 = .ok (.getfield 26, 3) := by decide +kernel
theorem d39_37 : decode prog_45_method_31_code 37 = .ok (.imul, 1) := by decide +kernel
theorem d39_38 : decode prog_45_method_31_code 38 = .ok (.iload 7, 2) := by decide +kernel
theorem d39_40 : decode prog_45_method_31_code 40 = .ok (.iadd, 1) := by decide +kernel
theorem d39_41 : decode prog_45_method_31_code 41 = .ok (.iaload, 1) := by decide +kernel
theorem d39_42 : decode prog_45_method_31_code 42 = .ok (.invokestatic 294, 3) := by decide +kernel
theorem d39_45 : decode prog_45_method_31_code 45 = .ok (.istore_n 3, 1) := by decide +kernel
theorem d39_46 : decode prog_45_method_31_code 46 = .ok (.iinc 6 1, 3) := by decide +kernel
theorem d39_49 : decode prog_45_method_31_code 49 = .ok (.goto (-36), 3) := by decide +kernel
theorem d39_52 : decode prog_45_method_31_code 52 = .ok (.iload_n 3, 1) := by decide +kernel
theorem d39_53 : decode prog_45_method_31_code 53 = .ok (.invokestatic 297, 3) := by decide +kernel
theorem d39_56 : decode prog_45_method_31_code 56 = .ok (.ireturn, 1) := by decide +kernel
theorem ef_rm_a38 (m : MethodId) (x0 : Addr) (x1 : Addr) : entryFrame m #[(.ref x0), (.ref x1), (.int (0 : Int32))] 8 = mkF m 0 #[.val (.ref x0), .val (.ref x1), .val (.int (0 : Int32)), .unset, .unset, .unset, .unset, .unset] [] := by first | (simp [entryFrame, mkF, argsToLocals, Value.category]; done) | rfl
set_option maxRecDepth 65536 in
set_option maxHeartbeats 40000000 in
theorem rm_a38 (l : Launch) (Z : State) (a0 : Array Value) (hw : ∀ d ∈ tables_1, d.before a0 Z = true) (h0 : Heap) {lo : Nat} (ka1 : Addr) (ka2 : Addr) (e0 : Addr × oD) (e1 : Addr × oD) (e2 : Addr × oD) (e3 : Addr × oD) (e5 : Addr × oD) (e6 : Addr × oD) (e7 : Addr × oD) (ka3 : Addr) (ia1 : Int32) (ia2 : Int32) (ia3 : Int32) (e9 : Addr × oD) (ka4 : Addr) (ka5 : Addr) (ka6 : Addr) (ka7 : Addr) (ds : oDs) :
    oMet l Z h0 lo (⟨"com/example/tanglemark/tanglemark/datalog/Relation", "hashRow", "([II)I"⟩ : MethodName) prog_45_method_31_code 8 (some .int) [] ({ frames := 1, cells := 0, slots := 0, locals := 13 } : Room) #[(.ref ka1), (.ref ka2), (.int (0 : Int32))] (e0 :: e1 :: e2 :: e3 :: (ka2, oA .int [o0, (.int (1 : Int32)), (.int (2 : Int32))]) :: e5 :: e6 :: e7 :: (ka3, oA .int [(.int ia1), (.int ia2), (.int ia3), o0, o0, o0, o0, o0, o0, o0, o0, o0, o0, o0, o0, o0, o0, o0, o0, o0, o0, o0, o0, o0, o0, o0, o0, o0, o0, o0, o0, o0, o0, o0, o0, o0, o0, o0, o0, o0, o0, o0, o0, o0, o0, o0, o0, o0]) :: e9 :: (ka1, oO cn0 [(fk0, (.ref ka4)), (fk1, (.ref ka5)), (fk2, (.int (3 : Int32))), (fk3, (.int (2147483639 : Int32))), (fk4, (.int (1073741824 : Int32))), (fk5, (.ref ka3)), (fk6, (.ref ka6)), (fk7, .null), (fk8, (.int (0 : Int32))), (fk9, (.int (1 : Int32))), (fk10, (.ref ka7))]) :: ds) (fun (v : Option Value) (d : oDs) => (v = some (.int (oH ia1 ia2 ia3)) ∧ (e0 :: e1 :: e2 :: e3 :: (ka2, oA .int [o0, (.int (1 : Int32)), (.int (2 : Int32))]) :: e5 :: e6 :: e7 :: (ka3, oA .int [(.int ia1), (.int ia2), (.int ia3), o0, o0, o0, o0, o0, o0, o0, o0, o0, o0, o0, o0, o0, o0, o0, o0, o0, o0, o0, o0, o0, o0, o0, o0, o0, o0, o0, o0, o0, o0, o0, o0, o0, o0, o0, o0, o0, o0, o0, o0, o0, o0, o0, o0, o0]) :: e9 :: (ka1, oO cn0 [(fk0, (.ref ka4)), (fk1, (.ref ka5)), (fk2, (.int (3 : Int32))), (fk3, (.int (2147483639 : Int32))), (fk4, (.int (1073741824 : Int32))), (fk5, (.ref ka3)), (fk6, (.ref ka6)), (fk7, .null), (fk8, (.int (0 : Int32))), (fk9, (.int (1 : Int32))), (fk10, (.ref ka7))]) :: ds) = d)) := by
  refine oMet.of_body (plainFor_of_name pn_9) ?_
  intro p e s m below meth c T B hby hml hown hnm hret
  refine W_entry (ef_rm_a38 m ka1 ka2) ?_
  refine W_iconst B (hb hby d39_0) (pc' := 1) rfl (z := (0 : Int32)) (by decide) ?_
  refine W_istoreN B (hb hby d39_1) (pc' := 2) rfl (v := (0 : Int32)) rfl (ls' := #[.val (.ref ka1), .val (.ref ka2), .val (.int (0 : Int32)), .val (.int (0 : Int32)), .unset, .unset, .unset, .unset]) rfl ?_
  refine W_aloadN B (hb hby d39_2) (pc' := 3) rfl rfl rfl ?_
  refine W_astore B (hb hby d39_3) (pc' := 5) rfl rfl (ls' := #[.val (.ref ka1), .val (.ref ka2), .val (.int (0 : Int32)), .val (.int (0 : Int32)), .val (.ref ka2), .unset, .unset, .unset]) rfl ?_
  refine W_aload B (hb hby d39_5) (pc' := 7) rfl rfl rfl ?_
  refine W_arraylength B (hb hby d39_7) (pc' := 8) rfl (j := 4) rfl (z := (3 : Int32)) rfl ?_
  refine W_istore B (hb hby d39_8) (pc' := 10) rfl (v := (3 : Int32)) rfl (ls' := #[.val (.ref ka1), .val (.ref ka2), .val (.int (0 : Int32)), .val (.int (0 : Int32)), .val (.ref ka2), .val (.int (3 : Int32)), .unset, .unset]) rfl ?_
  refine W_iconst B (hb hby d39_10) (pc' := 11) rfl (z := (0 : Int32)) (by decide) ?_
  refine W_istore B (hb hby d39_11) (pc' := 13) rfl (v := (0 : Int32)) rfl (ls' := #[.val (.ref ka1), .val (.ref ka2), .val (.int (0 : Int32)), .val (.int (0 : Int32)), .val (.ref ka2), .val (.int (3 : Int32)), .val (.int (0 : Int32)), .unset]) rfl ?_
  refine W_iload B (hb hby d39_13) (pc' := 15) rfl rfl ?_
  refine W_iload B (hb hby d39_15) (pc' := 17) rfl rfl ?_
  refine W_icmpN B (hb hby d39_17) (pc' := 20) rfl (by decide) ?_
  refine W_aload B (hb hby d39_20) (pc' := 22) rfl rfl rfl ?_
  refine W_iload B (hb hby d39_22) (pc' := 24) rfl rfl ?_
  refine W_iaload B (hb hby d39_24) (pc' := 25) rfl (i := 4) rfl (by decide) (v := (.int (0 : Int32))) rfl ?_
  refine W_istore B (hb hby d39_25) (pc' := 27) rfl (v := (0 : Int32)) rfl (ls' := #[.val (.ref ka1), .val (.ref ka2), .val (.int (0 : Int32)), .val (.int (0 : Int32)), .val (.ref ka2), .val (.int (3 : Int32)), .val (.int (0 : Int32)), .val (.int (0 : Int32))]) rfl ?_
  refine W_iloadN B (hb hby d39_27) (pc' := 28) rfl rfl ?_
  refine W_aloadN B (hb hby d39_28) (pc' := 29) rfl rfl rfl ?_
  refine W_getfield B hown (host := "") (Or.inl (ow hw (i := 69) rfl)) Via.refl (hb hby d39_29) (pc' := 32) rfl (j := 10) rfl (q := 5) rfl ?_
  intro T B
  refine W_iloadN B (hb hby d39_32) (pc' := 33) rfl rfl ?_
  refine W_aloadN B (hb hby d39_33) (pc' := 34) rfl rfl rfl ?_
  refine W_getfield B hown (host := "") (Or.inl (ow hw (i := 50) rfl)) Via.refl (hb hby d39_34) (pc' := 37) rfl (j := 10) rfl (q := 2) rfl ?_
  intro T B
  refine W_imul B (hb hby d39_37) (pc' := 38) rfl (z := (0 : Int32)) (by decide) ?_
  refine W_iload B (hb hby d39_38) (pc' := 40) rfl rfl ?_
  refine W_iadd B (hb hby d39_40) (pc' := 41) rfl (z := (0 : Int32)) (by decide) ?_
  refine W_iaload B (hb hby d39_41) (pc' := 42) rfl (i := 8) rfl (by decide) (v := (.int ia1)) rfl ?_
  refine W_callS B (y := (⟨"com/example/tanglemark/tanglemark/datalog/Relation", "mix", "(II)I"⟩ : MethodName)) hown (ow hw (i := 229) rfl) (ow hw (i := 230) rfl) (ow hw (i := 3) rfl) (ow hw (i := 231) rfl) (by decide) (rm_a24 l Z a0 hw h0 ia1 _ ) (lenOf pd_2 rfl) (hb hby d39_42) (pc' := 45) rfl (argsL := [(.int (0 : Int32)), (.int ia1)]) (rest := []) rfl (by rw [hml]; rfl) (W := 0) (oLe rfl) (by decide) (cells' := 0) rfl (slots' := 0) rfl ?_
  intro T v_ d_ q_ B
  obtain ⟨rfl, rfl⟩ := q_
  show oWin p e below Z h0 _ _ (T.setTop (mkF m 45 #[.val (.ref ka1), .val (.ref ka2), .val (.int (0 : Int32)), .val (.int (0 : Int32)), .val (.ref ka2), .val (.int (3 : Int32)), .val (.int (0 : Int32)), .val (.int (0 : Int32))] [(.int (oM (0 : Int32) ia1))]))
  refine W_istoreN B (hb hby d39_45) (pc' := 46) rfl (v := (oM (0 : Int32) ia1)) rfl (ls' := #[.val (.ref ka1), .val (.ref ka2), .val (.int (0 : Int32)), .val (.int (oM (0 : Int32) ia1)), .val (.ref ka2), .val (.int (3 : Int32)), .val (.int (0 : Int32)), .val (.int (0 : Int32))]) rfl ?_
  refine W_iinc B (hb hby d39_46) (pc' := 49) rfl rfl (z := (1 : Int32)) (by decide) (ls' := #[.val (.ref ka1), .val (.ref ka2), .val (.int (0 : Int32)), .val (.int (oM (0 : Int32) ia1)), .val (.ref ka2), .val (.int (3 : Int32)), .val (.int (1 : Int32)), .val (.int (0 : Int32))]) rfl ?_
  refine W_goto B (hb hby d39_49) (by decide) (pc' := 13) (by decide) ?_
  refine W_iload B (hb hby d39_13) (pc' := 15) rfl rfl ?_
  refine W_iload B (hb hby d39_15) (pc' := 17) rfl rfl ?_
  refine W_icmpN B (hb hby d39_17) (pc' := 20) rfl (by decide) ?_
  refine W_aload B (hb hby d39_20) (pc' := 22) rfl rfl rfl ?_
  refine W_iload B (hb hby d39_22) (pc' := 24) rfl rfl ?_
  refine W_iaload B (hb hby d39_24) (pc' := 25) rfl (i := 4) rfl (by decide) (v := (.int (1 : Int32))) rfl ?_
  refine W_istore B (hb hby d39_25) (pc' := 27) rfl (v := (1 : Int32)) rfl (ls' := #[.val (.ref ka1), .val (.ref ka2), .val (.int (0 : Int32)), .val (.int (oM (0 : Int32) ia1)), .val (.ref ka2), .val (.int (3 : Int32)), .val (.int (1 : Int32)), .val (.int (1 : Int32))]) rfl ?_
  refine W_iloadN B (hb hby d39_27) (pc' := 28) rfl rfl ?_
  refine W_aloadN B (hb hby d39_28) (pc' := 29) rfl rfl rfl ?_
  refine W_getfield B hown (host := "") (Or.inl (ow hw (i := 69) rfl)) Via.refl (hb hby d39_29) (pc' := 32) rfl (j := 10) rfl (q := 5) rfl ?_
  intro T B
  refine W_iloadN B (hb hby d39_32) (pc' := 33) rfl rfl ?_
  refine W_aloadN B (hb hby d39_33) (pc' := 34) rfl rfl rfl ?_
  refine W_getfield B hown (host := "") (Or.inl (ow hw (i := 50) rfl)) Via.refl (hb hby d39_34) (pc' := 37) rfl (j := 10) rfl (q := 2) rfl ?_
  intro T B
  refine W_imul B (hb hby d39_37) (pc' := 38) rfl (z := (0 : Int32)) (by decide) ?_
  refine W_iload B (hb hby d39_38) (pc' := 40) rfl rfl ?_
  refine W_iadd B (hb hby d39_40) (pc' := 41) rfl (z := (1 : Int32)) (by decide) ?_
  refine W_iaload B (hb hby d39_41) (pc' := 42) rfl (i := 8) rfl (by decide) (v := (.int ia2)) rfl ?_
  refine W_callS B (y := (⟨"com/example/tanglemark/tanglemark/datalog/Relation", "mix", "(II)I"⟩ : MethodName)) hown (ow hw (i := 229) rfl) (ow hw (i := 230) rfl) (ow hw (i := 3) rfl) (ow hw (i := 231) rfl) (by decide) (rm_a25 l Z a0 hw h0 ia1 ia2 _ ) (lenOf pd_2 rfl) (hb hby d39_42) (pc' := 45) rfl (argsL := [(.int (oM (0 : Int32) ia1)), (.int ia2)]) (rest := []) rfl (by rw [hml]; rfl) (W := 0) (oLe rfl) (by decide) (cells' := 0) rfl (slots' := 0) rfl ?_
  intro T v_ d_ q_ B
  obtain ⟨rfl, rfl⟩ := q_
  show oWin p e below Z h0 _ _ (T.setTop (mkF m 45 #[.val (.ref ka1), .val (.ref ka2), .val (.int (0 : Int32)), .val (.int (oM (0 : Int32) ia1)), .val (.ref ka2), .val (.int (3 : Int32)), .val (.int (1 : Int32)), .val (.int (1 : Int32))] [(.int (oM (oM (0 : Int32) ia1) ia2))]))
  refine W_istoreN B (hb hby d39_45) (pc' := 46) rfl (v := (oM (oM (0 : Int32) ia1) ia2)) rfl (ls' := #[.val (.ref ka1), .val (.ref ka2), .val (.int (0 : Int32)), .val (.int (oM (oM (0 : Int32) ia1) ia2)), .val (.ref ka2), .val (.int (3 : Int32)), .val (.int (1 : Int32)), .val (.int (1 : Int32))]) rfl ?_
  refine W_iinc B (hb hby d39_46) (pc' := 49) rfl rfl (z := (2 : Int32)) (by decide) (ls' := #[.val (.ref ka1), .val (.ref ka2), .val (.int (0 : Int32)), .val (.int (oM (oM (0 : Int32) ia1) ia2)), .val (.ref ka2), .val (.int (3 : Int32)), .val (.int (2 : Int32)), .val (.int (1 : Int32))]) rfl ?_
  refine W_goto B (hb hby d39_49) (by decide) (pc' := 13) (by decide) ?_
  refine W_iload B (hb hby d39_13) (pc' := 15) rfl rfl ?_
  refine W_iload B (hb hby d39_15) (pc' := 17) rfl rfl ?_
  refine W_icmpN B (hb hby d39_17) (pc' := 20) rfl (by decide) ?_
  refine W_aload B (hb hby d39_20) (pc' := 22) rfl rfl rfl ?_
  refine W_iload B (hb hby d39_22) (pc' := 24) rfl rfl ?_
  refine W_iaload B (hb hby d39_24) (pc' := 25) rfl (i := 4) rfl (by decide) (v := (.int (2 : Int32))) rfl ?_
  refine W_istore B (hb hby d39_25) (pc' := 27) rfl (v := (2 : Int32)) rfl (ls' := #[.val (.ref ka1), .val (.ref ka2), .val (.int (0 : Int32)), .val (.int (oM (oM (0 : Int32) ia1) ia2)), .val (.ref ka2), .val (.int (3 : Int32)), .val (.int (2 : Int32)), .val (.int (2 : Int32))]) rfl ?_
  refine W_iloadN B (hb hby d39_27) (pc' := 28) rfl rfl ?_
  refine W_aloadN B (hb hby d39_28) (pc' := 29) rfl rfl rfl ?_
  refine W_getfield B hown (host := "") (Or.inl (ow hw (i := 69) rfl)) Via.refl (hb hby d39_29) (pc' := 32) rfl (j := 10) rfl (q := 5) rfl ?_
  intro T B
  refine W_iloadN B (hb hby d39_32) (pc' := 33) rfl rfl ?_
  refine W_aloadN B (hb hby d39_33) (pc' := 34) rfl rfl rfl ?_
  refine W_getfield B hown (host := "") (Or.inl (ow hw (i := 50) rfl)) Via.refl (hb hby d39_34) (pc' := 37) rfl (j := 10) rfl (q := 2) rfl ?_
  intro T B
  refine W_imul B (hb hby d39_37) (pc' := 38) rfl (z := (0 : Int32)) (by decide) ?_
  refine W_iload B (hb hby d39_38) (pc' := 40) rfl rfl ?_
  refine W_iadd B (hb hby d39_40) (pc' := 41) rfl (z := (2 : Int32)) (by decide) ?_
  refine W_iaload B (hb hby d39_41) (pc' := 42) rfl (i := 8) rfl (by decide) (v := (.int ia3)) rfl ?_
  refine W_callS B (y := (⟨"com/example/tanglemark/tanglemark/datalog/Relation", "mix", "(II)I"⟩ : MethodName)) hown (ow hw (i := 229) rfl) (ow hw (i := 230) rfl) (ow hw (i := 3) rfl) (ow hw (i := 231) rfl) (by decide) (rm_a26 l Z a0 hw h0 ia1 ia2 ia3 _ ) (lenOf pd_2 rfl) (hb hby d39_42) (pc' := 45) rfl (argsL := [(.int (oM (oM (0 : Int32) ia1) ia2)), (.int ia3)]) (rest := []) rfl (by rw [hml]; rfl) (W := 0) (oLe rfl) (by decide) (cells' := 0) rfl (slots' := 0) rfl ?_
  intro T v_ d_ q_ B
  obtain ⟨rfl, rfl⟩ := q_
  show oWin p e below Z h0 _ _ (T.setTop (mkF m 45 #[.val (.ref ka1), .val (.ref ka2), .val (.int (0 : Int32)), .val (.int (oM (oM (0 : Int32) ia1) ia2)), .val (.ref ka2), .val (.int (3 : Int32)), .val (.int (2 : Int32)), .val (.int (2 : Int32))] [(.int (oM (oM (oM (0 : Int32) ia1) ia2) ia3))]))
  refine W_istoreN B (hb hby d39_45) (pc' := 46) rfl (v := (oM (oM (oM (0 : Int32) ia1) ia2) ia3)) rfl (ls' := #[.val (.ref ka1), .val (.ref ka2), .val (.int (0 : Int32)), .val (.int (oM (oM (oM (0 : Int32) ia1) ia2) ia3)), .val (.ref ka2), .val (.int (3 : Int32)), .val (.int (2 : Int32)), .val (.int (2 : Int32))]) rfl ?_
  refine W_iinc B (hb hby d39_46) (pc' := 49) rfl rfl (z := (3 : Int32)) (by decide) (ls' := #[.val (.ref ka1), .val (.ref ka2), .val (.int (0 : Int32)), .val (.int (oM (oM (oM (0 : Int32) ia1) ia2) ia3)), .val (.ref ka2), .val (.int (3 : Int32)), .val (.int (3 : Int32)), .val (.int (2 : Int32))]) rfl ?_
  refine W_goto B (hb hby d39_49) (by decide) (pc' := 13) (by decide) ?_
  refine W_iload B (hb hby d39_13) (pc' := 15) rfl rfl ?_
  refine W_iload B (hb hby d39_15) (pc' := 17) rfl rfl ?_
  refine W_icmpY B (hb hby d39_17) (by decide) (pc' := 52) (by decide) (by decide) ?_
  refine W_iloadN B (hb hby d39_52) (pc' := 53) rfl rfl ?_
  refine W_callS B (y := (⟨"com/example/tanglemark/tanglemark/datalog/Relation", "finish", "(I)I"⟩ : MethodName)) hown (ow hw (i := 233) rfl) (ow hw (i := 234) rfl) (ow hw (i := 3) rfl) (ow hw (i := 235) rfl) (by decide) (rm_a27 l Z a0 hw h0 ia1 ia2 ia3 _ ) (lenOf pd_1 rfl) (hb hby d39_53) (pc' := 56) rfl (argsL := [(.int (oM (oM (oM (0 : Int32) ia1) ia2) ia3))]) (rest := []) rfl (by rw [hml]; rfl) (W := 0) (oLe rfl) (by decide) (cells' := 0) rfl (slots' := 0) rfl ?_
  intro T v_ d_ q_ B
  obtain ⟨rfl, rfl⟩ := q_
  show oWin p e below Z h0 _ _ (T.setTop (mkF m 56 #[.val (.ref ka1), .val (.ref ka2), .val (.int (0 : Int32)), .val (.int (oM (oM (oM (0 : Int32) ia1) ia2) ia3)), .val (.ref ka2), .val (.int (3 : Int32)), .val (.int (3 : Int32)), .val (.int (2 : Int32))] [(.int (oF (oM (oM (oM (0 : Int32) ia1) ia2) ia3)))]))
  refine W_retI B hret (hb hby d39_56) (by decide) ?_
  exact ⟨rfl, rfl⟩
theorem pd_22 : parseMethodDescriptor "([II)I" = some ⟨[(.array .int), .int], some .int⟩ := by decide +kernel
theorem d38_9 : decode prog_45_method_35_code 9 = .ok (.aload_n 1, 1) := by decide +kernel
theorem d38_10 : decode prog_45_method_35_code 10 = .ok (.getfield 289, 3) := by decide +kernel
theorem d38_13 : decode prog_45_method_35_code 13 = .ok (.arraylength, 1) := by decide +kernel
theorem d38_14 : decode prog_45_method_35_code 14 = .ok (.iconst 1, 1) := by decide +kernel
theorem d38_15 : decode prog_45_method_35_code 15 = .ok (.isub, 1) := by decide +kernel
theorem d38_16 : decode prog_45_method_35_code 16 = .ok (.iand, 1) := by decide +kernel
theorem d38_17 : decode prog_45_method_35_code 17 = .ok (.istore_n 3, 1) := by decide +kernel
theorem d38_18 : decode prog_45_method_35_code 18 = .ok (.aload_n 1, 1) := by decide +kernel
theorem d38_19 : decode prog_45_method_35_code 19 = .ok (.getfield 292, 3) := by decide +kernel
theorem d38_22 : decode prog_45_method_35_code 22 = .ok (.iload_n 2, 1) := by decide +kernel
theorem d38_23 : decode prog_45_method_35_code 23 = .ok (.aload_n 1, 1) := by decide +kernel
theorem d38_24 : decode prog_45_method_35_code 24 = .ok (.getfield 289, 3) := by decide +kernel
theorem d38_27 : decode prog_45_method_35_code 27 = .ok (.iload_n 3, 1) := by decide +kernel
theorem d38_28 : decode prog_45_method_35_code 28 = .ok (.iaload, 1) := by decide +kernel
theorem d38_29 : decode prog_45_method_35_code 29 = .ok (.iastore, 1) := by decide +kernel
theorem d38_30 : decode prog_45_method_35_code 30 = .ok (.aload_n 1, 1) := by decide +kernel
theorem d38_31 : decode prog_45_method_35_code 31 = .ok (.getfield 289, 3) := by decide +kernel
theorem d38_34 : decode prog_45_method_35_code 34 = .ok (.iload_n 3, 1) := by decide +kernel
theorem d38_35 : decode prog_45_method_35_code 35 = .ok (.iload_n 2, 1) := by decide +kernel
theorem d38_36 : decode prog_45_method_35_code 36 = .ok (.iastore, 1) := by decide +kernel
theorem d38_37 : decode prog_45_method_35_code 37 = .ok (.return_, 1) := by decide +kernel
theorem ef_rm_a39 (m : MethodId) (x0 : Addr) (x1 : Addr) : entryFrame m #[(.ref x0), (.ref x1), (.int (0 : Int32))] 4 = mkF m 0 #[.val (.ref x0), .val (.ref x1), .val (.int (0 : Int32)), .unset] [] := by first | (simp [entryFrame, mkF, argsToLocals, Value.category]; done) | rfl
set_option maxRecDepth 65536 in
set_option maxHeartbeats 40000000 in
theorem rm_a39 (l : Launch) (Z : State) (a0 : Array Value) (hw : ∀ d ∈ tables_1, d.before a0 Z = true) (h0 : Heap) {lo : Nat} (ka1 : Addr) (ka2 : Addr) (e0 : Addr × oD) (e1 : Addr × oD) (ka3 : Addr) (ka4 : Addr) (ka5 : Addr) (e6 : Addr × oD) (e7 : Addr × oD) (ka6 : Addr) (ia1 : Int32) (ia2 : Int32) (ia3 : Int32) (e9 : Addr × oD) (ka7 : Addr) (ka8 : Addr) (ka9 : Addr) (ds : oDs) (hy0 : ((oH ia1 ia2 ia3) &&& (15 : Int32)).toNatClampNeg < oHd0.length) (hy1 : oHd0.length.toInt32 = (16 : Int32)) (hy2 : oHd0[((oH ia1 ia2 ia3) &&& (15 : Int32)).toNatClampNeg]? = some (.int (-1 : Int32))) (hy3 : ¬ ((oH ia1 ia2 ia3) &&& (15 : Int32)) < (0 : Int32)) :
    oMet l Z h0 lo (⟨"com/example/tanglemark/tanglemark/datalog/Relation", "link", "(Lcom/example/tanglemark/tanglemark/datalog/Relation$Chains;I)V"⟩ : MethodName) prog_45_method_35_code 4 none [] ({ frames := 2, cells := 0, slots := 0, locals := 32 } : Room) #[(.ref ka1), (.ref ka2), (.int (0 : Int32))] (e0 :: e1 :: (ka3, oA .int [o0, o0, o0, o0, o0, o0, o0, o0, o0, o0, o0, o0, o0, o0, o0, o0]) :: (ka4, oA .int oHd0) :: (ka5, oA .int [o0, (.int (1 : Int32)), (.int (2 : Int32))]) :: (ka2, oO cn3 [(fk18, (.ref ka5)), (fk19, (.ref ka4)), (fk20, (.ref ka3))]) :: e6 :: e7 :: (ka6, oA .int [(.int ia1), (.int ia2), (.int ia3), o0, o0, o0, o0, o0, o0, o0, o0, o0, o0, o0, o0, o0, o0, o0, o0, o0, o0, o0, o0, o0, o0, o0, o0, o0, o0, o0, o0, o0, o0, o0, o0, o0, o0, o0, o0, o0, o0, o0, o0, o0, o0, o0, o0, o0]) :: e9 :: (ka1, oO cn0 [(fk0, (.ref ka7)), (fk1, (.ref ka8)), (fk2, (.int (3 : Int32))), (fk3, (.int (2147483639 : Int32))), (fk4, (.int (1073741824 : Int32))), (fk5, (.ref ka6)), (fk6, (.ref ka9)), (fk7, .null), (fk8, (.int (0 : Int32))), (fk9, (.int (1 : Int32))), (fk10, (.ref ka2))]) :: ds) (fun (v : Option Value) (d : oDs) => (v = none ∧ (e0 :: e1 :: (ka3, oA .int [(.int (-1 : Int32)), o0, o0, o0, o0, o0, o0, o0, o0, o0, o0, o0, o0, o0, o0, o0]) :: (ka4, oA .int (oHd0.set ((oH ia1 ia2 ia3) &&& (15 : Int32)).toNatClampNeg (.int (0 : Int32)))) :: (ka5, oA .int [o0, (.int (1 : Int32)), (.int (2 : Int32))]) :: (ka2, oO cn3 [(fk18, (.ref ka5)), (fk19, (.ref ka4)), (fk20, (.ref ka3))]) :: e6 :: e7 :: (ka6, oA .int [(.int ia1), (.int ia2), (.int ia3), o0, o0, o0, o0, o0, o0, o0, o0, o0, o0, o0, o0, o0, o0, o0, o0, o0, o0, o0, o0, o0, o0, o0, o0, o0, o0, o0, o0, o0, o0, o0, o0, o0, o0, o0, o0, o0, o0, o0, o0, o0, o0, o0, o0, o0]) :: e9 :: (ka1, oO cn0 [(fk0, (.ref ka7)), (fk1, (.ref ka8)), (fk2, (.int (3 : Int32))), (fk3, (.int (2147483639 : Int32))), (fk4, (.int (1073741824 : Int32))), (fk5, (.ref ka6)), (fk6, (.ref ka9)), (fk7, .null), (fk8, (.int (0 : Int32))), (fk9, (.int (1 : Int32))), (fk10, (.ref ka2))]) :: ds) = d)) := by
  refine oMet.of_body (plainFor_of_name pn_9) ?_
  intro p e s m below meth c T B hby hml hown hnm hret
  refine W_entry (ef_rm_a39 m ka1 ka2) ?_
  refine W_aloadN B (hb hby d38_0) (pc' := 1) rfl rfl rfl ?_
  refine W_aloadN B (hb hby d38_1) (pc' := 2) rfl rfl rfl ?_
  refine W_getfield B hown (host := "") (Or.inl (ow hw (i := 274) rfl)) (Via.of (ow hw (i := 275) rfl)) (hb hby d38_2) (pc' := 5) rfl (j := 5) rfl (q := 0) rfl ?_
  intro T B
  refine W_iloadN B (hb hby d38_5) (pc' := 6) rfl rfl ?_
  refine W_privateS B (y := (⟨"com/example/tanglemark/tanglemark/datalog/Relation", "hashRow", "([II)I"⟩ : MethodName)) hown (ow hw (i := 276) rfl) (ow hw (i := 277) rfl) (ow hw (i := 2) rfl) (ow hw (i := 278) rfl) (ow hw (i := 3) rfl) (ow hw (i := 279) rfl) (by decide) (a := ka1) (rm_a38 l Z a0 hw h0 ka1 ka5 _ _ _ _ _ _ _ ka6 ia1 ia2 ia3 _ ka7 ka8 ka9 ka2 _ ) (lenOf pd_22 rfl) (hb hby d38_6) (pc' := 9) rfl (argsL := [(.ref ka5), (.int (0 : Int32))]) (rest := []) rfl (by rw [hml]; rfl) (W := 0) (oLe rfl) (j := 10) rfl (by decide) (cells' := 0) rfl (slots' := 0) rfl ?_
  intro T v_ d_ q_ B
  obtain ⟨rfl, rfl⟩ := q_
  show oWin p e below Z h0 _ _ (T.setTop (mkF m 9 #[.val (.ref ka1), .val (.ref ka2), .val (.int (0 : Int32)), .unset] [(.int (oH ia1 ia2 ia3))]))
  refine W_aloadN B (hb hby d38_9) (pc' := 10) rfl rfl rfl ?_
  refine W_getfieldR B hown (ow hw (i := 239) rfl) (hb hby d38_10) (pc' := 13) rfl (j := 5) rfl (q := 1) rfl ?_
  refine W_arraylength B (hb hby d38_13) (pc' := 14) rfl (j := 3) rfl (z := (16 : Int32)) hy1 ?_
  refine W_iconst B (hb hby d38_14) (pc' := 15) rfl (z := (1 : Int32)) (by decide) ?_
  refine W_isub B (hb hby d38_15) (pc' := 16) rfl (z := (15 : Int32)) (by decide) ?_
  refine W_iand B (hb hby d38_16) (pc' := 17) rfl (z := ((oH ia1 ia2 ia3) &&& (15 : Int32))) rfl ?_
  refine W_istoreN B (hb hby d38_17) (pc' := 18) rfl (v := ((oH ia1 ia2 ia3) &&& (15 : Int32))) rfl (ls' := #[.val (.ref ka1), .val (.ref ka2), .val (.int (0 : Int32)), .val (.int ((oH ia1 ia2 ia3) &&& (15 : Int32)))]) rfl ?_
  refine W_aloadN B (hb hby d38_18) (pc' := 19) rfl rfl rfl ?_
  refine W_getfieldR B hown (ow hw (i := 269) rfl) (hb hby d38_19) (pc' := 22) rfl (j := 5) rfl (q := 2) rfl ?_
  refine W_iloadN B (hb hby d38_22) (pc' := 23) rfl rfl ?_
  refine W_aloadN B (hb hby d38_23) (pc' := 24) rfl rfl rfl ?_
  refine W_getfieldR B hown (ow hw (i := 239) rfl) (hb hby d38_24) (pc' := 27) rfl (j := 5) rfl (q := 1) rfl ?_
  refine W_iloadN B (hb hby d38_27) (pc' := 28) rfl rfl ?_
  refine W_iaload B (hb hby d38_28) (pc' := 29) rfl (i := 3) rfl hy3 (v := (.int (-1 : Int32))) hy2 ?_
  refine W_iastore B (hb hby d38_29) (pc' := 30) rfl (i := 2) rfl (by decide) (oLt rfl) (ds' := (e0 :: e1 :: (ka3, oA .int [(.int (-1 : Int32)), o0, o0, o0, o0, o0, o0, o0, o0, o0, o0, o0, o0, o0, o0, o0]) :: (ka4, oA .int oHd0) :: (ka5, oA .int [o0, (.int (1 : Int32)), (.int (2 : Int32))]) :: (ka2, oO cn3 [(fk18, (.ref ka5)), (fk19, (.ref ka4)), (fk20, (.ref ka3))]) :: e6 :: e7 :: (ka6, oA .int [(.int ia1), (.int ia2), (.int ia3), o0, o0, o0, o0, o0, o0, o0, o0, o0, o0, o0, o0, o0, o0, o0, o0, o0, o0, o0, o0, o0, o0, o0, o0, o0, o0, o0, o0, o0, o0, o0, o0, o0, o0, o0, o0, o0, o0, o0, o0, o0, o0, o0, o0, o0]) :: e9 :: (ka1, oO cn0 [(fk0, (.ref ka7)), (fk1, (.ref ka8)), (fk2, (.int (3 : Int32))), (fk3, (.int (2147483639 : Int32))), (fk4, (.int (1073741824 : Int32))), (fk5, (.ref ka6)), (fk6, (.ref ka9)), (fk7, .null), (fk8, (.int (0 : Int32))), (fk9, (.int (1 : Int32))), (fk10, (.ref ka2))]) :: ds)) rfl ?_
  intro T B
  refine W_aloadN B (hb hby d38_30) (pc' := 31) rfl rfl rfl ?_
  refine W_getfieldR B hown (ow hw (i := 239) rfl) (hb hby d38_31) (pc' := 34) rfl (j := 5) rfl (q := 1) rfl ?_
  refine W_iloadN B (hb hby d38_34) (pc' := 35) rfl rfl ?_
  refine W_iloadN B (hb hby d38_35) (pc' := 36) rfl rfl ?_
  refine W_iastore B (hb hby d38_36) (pc' := 37) rfl (i := 3) rfl hy3 hy0 (ds' := (e0 :: e1 :: (ka3, oA .int [(.int (-1 : Int32)), o0, o0, o0, o0, o0, o0, o0, o0, o0, o0, o0, o0, o0, o0, o0]) :: (ka4, oA .int (oHd0.set ((oH ia1 ia2 ia3) &&& (15 : Int32)).toNatClampNeg (.int (0 : Int32)))) :: (ka5, oA .int [o0, (.int (1 : Int32)), (.int (2 : Int32))]) :: (ka2, oO cn3 [(fk18, (.ref ka5)), (fk19, (.ref ka4)), (fk20, (.ref ka3))]) :: e6 :: e7 :: (ka6, oA .int [(.int ia1), (.int ia2), (.int ia3), o0, o0, o0, o0, o0, o0, o0, o0, o0, o0, o0, o0, o0, o0, o0, o0, o0, o0, o0, o0, o0, o0, o0, o0, o0, o0, o0, o0, o0, o0, o0, o0, o0, o0, o0, o0, o0, o0, o0, o0, o0, o0, o0, o0, o0]) :: e9 :: (ka1, oO cn0 [(fk0, (.ref ka7)), (fk1, (.ref ka8)), (fk2, (.int (3 : Int32))), (fk3, (.int (2147483639 : Int32))), (fk4, (.int (1073741824 : Int32))), (fk5, (.ref ka6)), (fk6, (.ref ka9)), (fk7, .null), (fk8, (.int (0 : Int32))), (fk9, (.int (1 : Int32))), (fk10, (.ref ka2))]) :: ds)) rfl ?_
  intro T B
  refine W_retV B hret (hb hby d38_37) (by decide) ?_
  exact ⟨rfl, rfl⟩
theorem pd_23 : parseMethodDescriptor "(Lcom/example/tanglemark/tanglemark/datalog/Relation$Chains;I)V" = some ⟨[(.object "com/example/tanglemark/tanglemark/datalog/Relation$Chains"), .int], none⟩ := by decide +kernel
theorem d37_106 : decode prog_45_method_34_code 106 = .ok (.return_, 1) := by decide +kernel
theorem ef_rm_a40 (m : MethodId) (x0 : Addr) (x1 : Addr) : entryFrame m #[(.ref x0), (.ref x1), (.int (0 : Int32))] 4 = mkF m 0 #[.val (.ref x0), .val (.ref x1), .val (.int (0 : Int32)), .unset] [] := by first | (simp [entryFrame, mkF, argsToLocals, Value.category]; done) | rfl
set_option maxRecDepth 65536 in
set_option maxHeartbeats 40000000 in
theorem rm_a40 (l : Launch) (Z : State) (a0 : Array Value) (hw : ∀ d ∈ tables_1, d.before a0 Z = true) (h0 : Heap) {lo : Nat} (ka1 : Addr) (ka2 : Addr) (e0 : Addr × oD) (e1 : Addr × oD) (ka3 : Addr) (ka4 : Addr) (ka5 : Addr) (e6 : Addr × oD) (e7 : Addr × oD) (ka6 : Addr) (ia1 : Int32) (ia2 : Int32) (ia3 : Int32) (e9 : Addr × oD) (ka7 : Addr) (ka8 : Addr) (ka9 : Addr) (ds : oDs) (hy0 : ((oH ia1 ia2 ia3) &&& (15 : Int32)).toNatClampNeg < oHd0.length) (hy1 : oHd0.length.toInt32 = (16 : Int32)) (hy2 : oHd0[((oH ia1 ia2 ia3) &&& (15 : Int32)).toNatClampNeg]? = some (.int (-1 : Int32))) (hy3 : ¬ ((oH ia1 ia2 ia3) &&& (15 : Int32)) < (0 : Int32)) :
    oMet l Z h0 lo (⟨"com/example/tanglemark/tanglemark/datalog/Relation", "insert", "(Lcom/example/tanglemark/tanglemark/datalog/Relation$Chains;I)V"⟩ : MethodName) prog_45_method_34_code 4 none [] ({ frames := 3, cells := 0, slots := 0, locals := 47 } : Room) #[(.ref ka1), (.ref ka2), (.int (0 : Int32))] (e0 :: e1 :: (ka3, oA .int [o0, o0, o0, o0, o0, o0, o0, o0, o0, o0, o0, o0, o0, o0, o0, o0]) :: (ka4, oA .int oHd0) :: (ka5, oA .int [o0, (.int (1 : Int32)), (.int (2 : Int32))]) :: (ka2, oO cn3 [(fk18, (.ref ka5)), (fk19, (.ref ka4)), (fk20, (.ref ka3))]) :: e6 :: e7 :: (ka6, oA .int [(.int ia1), (.int ia2), (.int ia3), o0, o0, o0, o0, o0, o0, o0, o0, o0, o0, o0, o0, o0, o0, o0, o0, o0, o0, o0, o0, o0, o0, o0, o0, o0, o0, o0, o0, o0, o0, o0, o0, o0, o0, o0, o0, o0, o0, o0, o0, o0, o0, o0, o0, o0]) :: e9 :: (ka1, oO cn0 [(fk0, (.ref ka7)), (fk1, (.ref ka8)), (fk2, (.int (3 : Int32))), (fk3, (.int (2147483639 : Int32))), (fk4, (.int (1073741824 : Int32))), (fk5, (.ref ka6)), (fk6, (.ref ka9)), (fk7, .null), (fk8, (.int (0 : Int32))), (fk9, (.int (1 : Int32))), (fk10, (.ref ka2))]) :: ds) (fun (v : Option Value) (d : oDs) => (v = none ∧ (e0 :: e1 :: (ka3, oA .int [(.int (-1 : Int32)), o0, o0, o0, o0, o0, o0, o0, o0, o0, o0, o0, o0, o0, o0, o0]) :: (ka4, oA .int (oHd0.set ((oH ia1 ia2 ia3) &&& (15 : Int32)).toNatClampNeg (.int (0 : Int32)))) :: (ka5, oA .int [o0, (.int (1 : Int32)), (.int (2 : Int32))]) :: (ka2, oO cn3 [(fk18, (.ref ka5)), (fk19, (.ref ka4)), (fk20, (.ref ka3))]) :: e6 :: e7 :: (ka6, oA .int [(.int ia1), (.int ia2), (.int ia3), o0, o0, o0, o0, o0, o0, o0, o0, o0, o0, o0, o0, o0, o0, o0, o0, o0, o0, o0, o0, o0, o0, o0, o0, o0, o0, o0, o0, o0, o0, o0, o0, o0, o0, o0, o0, o0, o0, o0, o0, o0, o0, o0, o0, o0]) :: e9 :: (ka1, oO cn0 [(fk0, (.ref ka7)), (fk1, (.ref ka8)), (fk2, (.int (3 : Int32))), (fk3, (.int (2147483639 : Int32))), (fk4, (.int (1073741824 : Int32))), (fk5, (.ref ka6)), (fk6, (.ref ka9)), (fk7, .null), (fk8, (.int (0 : Int32))), (fk9, (.int (1 : Int32))), (fk10, (.ref ka2))]) :: ds) = d)) := by
  refine oMet.of_body (plainFor_of_name pn_9) ?_
  intro p e s m below meth c T B hby hml hown hnm hret
  refine W_entry (ef_rm_a40 m ka1 ka2) ?_
  refine W_iloadN B (hb hby d37_0) (pc' := 1) rfl rfl ?_
  refine W_aloadN B (hb hby d37_1) (pc' := 2) rfl rfl rfl ?_
  refine W_getfieldR B hown (ow hw (i := 269) rfl) (hb hby d37_2) (pc' := 5) rfl (j := 5) rfl (q := 2) rfl ?_
  refine W_arraylength B (hb hby d37_5) (pc' := 6) rfl (j := 2) rfl (z := (16 : Int32)) rfl ?_
  refine W_icmpY B (hb hby d37_6) (by decide) (pc' := 39) (by decide) (by decide) ?_
  refine W_iloadN B (hb hby d37_39) (pc' := 40) rfl rfl ?_
  refine W_aloadN B (hb hby d37_40) (pc' := 41) rfl rfl rfl ?_
  refine W_getfieldR B hown (ow hw (i := 239) rfl) (hb hby d37_41) (pc' := 44) rfl (j := 5) rfl (q := 1) rfl ?_
  refine W_arraylength B (hb hby d37_44) (pc' := 45) rfl (j := 3) rfl (z := (16 : Int32)) hy1 ?_
  refine W_icmpY B (hb hby d37_45) (by decide) (pc' := 100) (by decide) (by decide) ?_
  refine W_aloadN B (hb hby d37_100) (pc' := 101) rfl rfl rfl ?_
  refine W_aloadN B (hb hby d37_101) (pc' := 102) rfl rfl rfl ?_
  refine W_iloadN B (hb hby d37_102) (pc' := 103) rfl rfl ?_
  refine W_privateS B (y := (⟨"com/example/tanglemark/tanglemark/datalog/Relation", "link", "(Lcom/example/tanglemark/tanglemark/datalog/Relation$Chains;I)V"⟩ : MethodName)) hown (ow hw (i := 270) rfl) (ow hw (i := 271) rfl) (ow hw (i := 2) rfl) (ow hw (i := 272) rfl) (ow hw (i := 3) rfl) (ow hw (i := 273) rfl) (by decide) (a := ka1) (rm_a39 l Z a0 hw h0 ka1 ka2 _ _ ka3 ka4 ka5 _ _ ka6 ia1 ia2 ia3 _ ka7 ka8 ka9 _ hy0 hy1 hy2 hy3) (lenOf pd_23 rfl) (hb hby d37_103) (pc' := 106) rfl (argsL := [(.ref ka2), (.int (0 : Int32))]) (rest := []) rfl (by rw [hml]; rfl) (W := 0) (oLe rfl) (j := 10) rfl (by decide) (cells' := 0) rfl (slots' := 0) rfl ?_
  intro T v_ d_ q_ B
  obtain ⟨rfl, rfl⟩ := q_
  show oWin p e below Z h0 _ _ (T.setTop (mkF m 106 #[.val (.ref ka1), .val (.ref ka2), .val (.int (0 : Int32)), .unset] []))
  refine W_retV B hret (hb hby d37_106) (by decide) ?_
  exact ⟨rfl, rfl⟩
theorem d34_159 : decode prog_45_method_9_code 159 = .ok (.goto (-30), 3) := by decide +kernel
theorem ef_rm_a41 (m : MethodId) (x0 : Addr) : entryFrame m #[(.ref x0)] 1 = mkF m 0 #[.val (.ref x0)] [] := by first | (simp [entryFrame, mkF, argsToLocals, Value.category]; done) | rfl
set_option maxRecDepth 65536 in
set_option maxHeartbeats 40000000 in
theorem rm_a41 (l : Launch) (Z : State) (a0 : Array Value) (hw : ∀ d ∈ tables_1, d.before a0 Z = true) (h0 : Heap) {lo : Nat} (ka1 : Addr) (ka2 : Addr) (e1 : Addr × oD) (e2 : Addr × oD) (e3 : Addr × oD) (e4 : Addr × oD) (e5 : Addr × oD) (e6 : Addr × oD) (e7 : Addr × oD) (e8 : Addr × oD) (ka3 : Addr) (ds : oDs) :
    oMet l Z h0 lo (⟨"java/util/ArrayList$Itr", "hasNext", "()Z"⟩ : MethodName) jdk_49_method_2_code 1 (some .boolean) [] ({ frames := 0, cells := 0, slots := 0, locals := 0 } : Room) #[(.ref ka1)] ((ka1, oO cn2 [(fk14, (.ref ka2)), (fk15, (.int (0 : Int32))), (fk16, (.int (1 : Int32))), (fk17, (.int (1 : Int32)))]) :: e1 :: e2 :: e3 :: e4 :: e5 :: e6 :: e7 :: e8 :: (ka2, oO cn1 [(fk11, (.int (1 : Int32))), (fk12, (.ref ka3)), (fk13, (.int (1 : Int32)))]) :: ds) (fun (v : Option Value) (d : oDs) => (v = some (.int (0 : Int32)) ∧ ((ka1, oO cn2 [(fk14, (.ref ka2)), (fk15, (.int (0 : Int32))), (fk16, (.int (1 : Int32))), (fk17, (.int (1 : Int32)))]) :: e1 :: e2 :: e3 :: e4 :: e5 :: e6 :: e7 :: e8 :: (ka2, oO cn1 [(fk11, (.int (1 : Int32))), (fk12, (.ref ka3)), (fk13, (.int (1 : Int32)))]) :: ds) = d)) := by
  refine oMet.of_body (plainFor_of_name pn_6) ?_
  intro p e s m below meth c T B hby hml hown hnm hret
  refine W_entry (ef_rm_a41 m ka1) ?_
  refine W_aloadN B (hb hby d16_0) (pc' := 1) rfl rfl rfl ?_
  refine W_getfield B hown (host := "") (Or.inl (ow hw (i := 128) rfl)) Via.refl (hb hby d16_1) (pc' := 4) rfl (j := 0) rfl (q := 3) rfl ?_
  intro T B
  refine W_aloadN B (hb hby d16_4) (pc' := 5) rfl rfl rfl ?_
  refine W_getfield B hown (host := "") (Or.inl (ow hw (i := 110) rfl)) Via.refl (hb hby d16_5) (pc' := 8) rfl (j := 0) rfl (q := 0) rfl ?_
  intro T B
  refine W_getfield B hown (Or.inr (ow hw (i := 130) rfl)) Via.refl (hb hby d16_8) (pc' := 11) rfl (j := 9) rfl (q := 2) rfl ?_
  intro T B
  refine W_icmpY B (hb hby d16_11) (by decide) (pc' := 18) (by decide) (by decide) ?_
  refine W_iconst B (hb hby d16_18) (pc' := 19) rfl (z := (0 : Int32)) (by decide) ?_
  refine W_retN B hret (by simp) (hb hby d16_19) (by decide) ?_
  exact ⟨rfl, rfl⟩
theorem d34_162 : decode prog_45_method_9_code 162 = .ok (.return_, 1) := by decide +kernel
theorem ef_rm_a42 (m : MethodId) (x0 : Addr) (x1 : Addr) : entryFrame m #[(.ref x0), (.ref x1)] 5 = mkF m 0 #[.val (.ref x0), .val (.ref x1), .unset, .unset, .unset] [] := by first | (simp [entryFrame, mkF, argsToLocals, Value.category]; done) | rfl
set_option maxRecDepth 65536 in
set_option maxHeartbeats 40000000 in
theorem rm_a42 (l : Launch) (Z : State) (a0 : Array Value) (hw : ∀ d ∈ tables_1, d.before a0 Z = true) (h0 : Heap) {lo : Nat} (ka1 : Addr) (ka2 : Addr) (ka3 : Addr) (ka4 : Addr) (ka5 : Addr) (ka6 : Addr) (ka7 : Addr) (e5 : Addr × oD) (e6 : Addr × oD) (ka8 : Addr) (ka9 : Addr) (ka10 : Addr) (ka11 : Addr) (e10 : Addr × oD) (e11 : Addr × oD) (e12 : Addr × oD) (ia1 : Int32) (ia2 : Int32) (ia3 : Int32) (ds : oDs) (hy0 : ((oH ia1 ia2 ia3) &&& (15 : Int32)).toNatClampNeg < oHd0.length) (hy1 : oHd0.length.toInt32 = (16 : Int32)) (hy2 : oHd0[((oH ia1 ia2 ia3) &&& (15 : Int32)).toNatClampNeg]? = some (.int (-1 : Int32))) (hy3 : ¬ ((oH ia1 ia2 ia3) &&& (15 : Int32)) < (0 : Int32)) :
    oMet l Z h0 lo (⟨"com/example/tanglemark/tanglemark/datalog/Relation", "append", "([I)V"⟩ : MethodName) prog_45_method_9_code 5 none [] ({ frames := 4, cells := 1, slots := 4, locals := 62 } : Room) #[(.ref ka1), (.ref ka2)] ((ka3, oA (.object "java/lang/Object") [(.ref ka4), .null, .null, .null, .null, .null, .null, .null, .null, .null]) :: (ka5, oA .int [o0, o0, o0, o0, o0, o0, o0, o0, o0, o0, o0, o0, o0, o0, o0, o0]) :: (ka6, oA .int oHd0) :: (ka7, oA .int [o0, (.int (1 : Int32)), (.int (2 : Int32))]) :: (ka4, oO cn3 [(fk18, (.ref ka7)), (fk19, (.ref ka6)), (fk20, (.ref ka5))]) :: e5 :: e6 :: (ka8, oA .int [o0, o0, o0, o0, o0, o0, o0, o0, o0, o0, o0, o0, o0, o0, o0, o0, o0, o0, o0, o0, o0, o0, o0, o0, o0, o0, o0, o0, o0, o0, o0, o0, o0, o0, o0, o0, o0, o0, o0, o0, o0, o0, o0, o0, o0, o0, o0, o0]) :: (ka9, oO cn1 [(fk11, (.int (1 : Int32))), (fk12, (.ref ka3)), (fk13, (.int (1 : Int32)))]) :: (ka1, oO cn0 [(fk0, (.ref ka9)), (fk1, (.ref ka10)), (fk2, (.int (3 : Int32))), (fk3, (.int (2147483639 : Int32))), (fk4, (.int (1073741824 : Int32))), (fk5, (.ref ka8)), (fk6, (.ref ka11)), (fk7, .null), (fk8, (.int (0 : Int32))), (fk9, (.int (0 : Int32))), (fk10, (.ref ka4))]) :: e10 :: e11 :: e12 :: (ka2, oA .int [(.int ia1), (.int ia2), (.int ia3)]) :: ds) (fun (v : Option Value) (d : oDs) => (∃ (b139 : Addr), v = none ∧ ((b139, oO cn2 [(fk14, (.ref ka9)), (fk15, (.int (0 : Int32))), (fk16, (.int (1 : Int32))), (fk17, (.int (1 : Int32)))]) :: (ka3, oA (.object "java/lang/Object") [(.ref ka4), .null, .null, .null, .null, .null, .null, .null, .null, .null]) :: (ka5, oA .int [(.int (-1 : Int32)), o0, o0, o0, o0, o0, o0, o0, o0, o0, o0, o0, o0, o0, o0, o0]) :: (ka6, oA .int (oHd0.set ((oH ia1 ia2 ia3) &&& (15 : Int32)).toNatClampNeg (.int (0 : Int32)))) :: (ka7, oA .int [o0, (.int (1 : Int32)), (.int (2 : Int32))]) :: (ka4, oO cn3 [(fk18, (.ref ka7)), (fk19, (.ref ka6)), (fk20, (.ref ka5))]) :: e5 :: e6 :: (ka8, oA .int [(.int ia1), (.int ia2), (.int ia3), o0, o0, o0, o0, o0, o0, o0, o0, o0, o0, o0, o0, o0, o0, o0, o0, o0, o0, o0, o0, o0, o0, o0, o0, o0, o0, o0, o0, o0, o0, o0, o0, o0, o0, o0, o0, o0, o0, o0, o0, o0, o0, o0, o0, o0]) :: (ka9, oO cn1 [(fk11, (.int (1 : Int32))), (fk12, (.ref ka3)), (fk13, (.int (1 : Int32)))]) :: (ka1, oO cn0 [(fk0, (.ref ka9)), (fk1, (.ref ka10)), (fk2, (.int (3 : Int32))), (fk3, (.int (2147483639 : Int32))), (fk4, (.int (1073741824 : Int32))), (fk5, (.ref ka8)), (fk6, (.ref ka11)), (fk7, .null), (fk8, (.int (0 : Int32))), (fk9, (.int (1 : Int32))), (fk10, (.ref ka4))]) :: e10 :: e11 :: e12 :: (ka2, oA .int [(.int ia1), (.int ia2), (.int ia3)]) :: ds) = d)) := by
  refine oMet.of_body (plainFor_of_name pn_9) ?_
  intro p e s m below meth c T B hby hml hown hnm hret
  refine W_entry (ef_rm_a42 m ka1 ka2) ?_
  refine W_aloadN B (hb hby d34_0) (pc' := 1) rfl rfl rfl ?_
  refine W_privateS B (y := (⟨"com/example/tanglemark/tanglemark/datalog/Relation", "requireOpen", "()V"⟩ : MethodName)) hown (ow hw (i := 217) rfl) (ow hw (i := 218) rfl) (ow hw (i := 2) rfl) (ow hw (i := 219) rfl) (ow hw (i := 3) rfl) (ow hw (i := 220) rfl) (by decide) (a := ka1) (rm_a23 l Z a0 hw h0 ka1 _ _ _ _ _ _ _ _ _ ka9 ka10 ka8 ka11 ka4 _ ) (lenOf pd_0 rfl) (hb hby d34_1) (pc' := 4) rfl (argsL := []) (rest := []) rfl (by rw [hml]; rfl) (W := 0) (oLe rfl) (j := 9) rfl (by decide) (cells' := 0) rfl (slots' := 0) rfl ?_
  intro T v_ d_ q_ B
  obtain ⟨rfl, rfl⟩ := q_
  show oWin p e below Z h0 _ _ (T.setTop (mkF m 4 #[.val (.ref ka1), .val (.ref ka2), .unset, .unset, .unset] []))
  refine W_aloadN B (hb hby d34_4) (pc' := 5) rfl rfl rfl ?_
  refine W_getfield B hown (host := "") (Or.inl (ow hw (i := 198) rfl)) Via.refl (hb hby d34_5) (pc' := 8) rfl (j := 9) rfl (q := 9) rfl ?_
  intro T B
  refine W_iconst B (hb hby d34_8) (pc' := 9) rfl (z := (1 : Int32)) (by decide) ?_
  refine W_iadd B (hb hby d34_9) (pc' := 10) rfl (z := (1 : Int32)) (by decide) ?_
  refine W_i2l B (hb hby d34_10) (pc' := 11) rfl (z := (1 : Int64)) (by decide) ?_
  refine W_aloadN B (hb hby d34_11) (pc' := 12) rfl rfl rfl ?_
  refine W_getfield B hown (host := "") (Or.inl (ow hw (i := 50) rfl)) Via.refl (hb hby d34_12) (pc' := 15) rfl (j := 9) rfl (q := 2) rfl ?_
  intro T B
  refine W_i2l B (hb hby d34_15) (pc' := 16) rfl (z := (3 : Int64)) (by decide) ?_
  refine W_lmul B (hb hby d34_16) (pc' := 17) rfl (z := (3 : Int64)) (by decide) ?_
  refine W_aloadN B (hb hby d34_17) (pc' := 18) rfl rfl rfl ?_
  refine W_getfield B hown (host := "") (Or.inl (ow hw (i := 69) rfl)) Via.refl (hb hby d34_18) (pc' := 21) rfl (j := 9) rfl (q := 5) rfl ?_
  intro T B
  refine W_arraylength B (hb hby d34_21) (pc' := 22) rfl (j := 7) rfl (z := (48 : Int32)) rfl ?_
  refine W_i2l B (hb hby d34_22) (pc' := 23) rfl (z := (48 : Int64)) (by decide) ?_
  refine W_lcmpY_le B (hb hby d34_23) (hb hby d34_24) (by decide) (pc' := 85) (by decide) (by decide) ?_
  refine W_aloadN B (hb hby d34_85) (pc' := 86) rfl rfl rfl ?_
  refine W_iconst B (hb hby d34_86) (pc' := 87) rfl (z := (0 : Int32)) (by decide) ?_
  refine W_aloadN B (hb hby d34_87) (pc' := 88) rfl rfl rfl ?_
  refine W_getfield B hown (host := "") (Or.inl (ow hw (i := 69) rfl)) Via.refl (hb hby d34_88) (pc' := 91) rfl (j := 9) rfl (q := 5) rfl ?_
  intro T B
  refine W_aloadN B (hb hby d34_91) (pc' := 92) rfl rfl rfl ?_
  refine W_getfield B hown (host := "") (Or.inl (ow hw (i := 198) rfl)) Via.refl (hb hby d34_92) (pc' := 95) rfl (j := 9) rfl (q := 9) rfl ?_
  intro T B
  refine W_aloadN B (hb hby d34_95) (pc' := 96) rfl rfl rfl ?_
  refine W_getfield B hown (host := "") (Or.inl (ow hw (i := 50) rfl)) Via.refl (hb hby d34_96) (pc' := 99) rfl (j := 9) rfl (q := 2) rfl ?_
  intro T B
  refine W_imul B (hb hby d34_99) (pc' := 100) rfl (z := (0 : Int32)) (by decide) ?_
  refine W_aloadN B (hb hby d34_100) (pc' := 101) rfl rfl rfl ?_
  refine W_getfield B hown (host := "") (Or.inl (ow hw (i := 50) rfl)) Via.refl (hb hby d34_101) (pc' := 104) rfl (j := 9) rfl (q := 2) rfl ?_
  intro T B
  refine W_arraycopy B (j1 := 13) (j2 := 7) (z := (3 : Int32)) (z' := (48 : Int32)) (sp := (0 : Int32)) (dp := (0 : Int32)) (nn := (3 : Int32)) hown (ow hw (i := 245) rfl) (ow hw (i := 248) rfl) (ow hw (i := 246) rfl) (ow hw (i := 247) rfl) (hb hby d34_104) (pc' := 107) rfl (by rw [hml]; rfl) rfl rfl ⟨by decide, rfl⟩ ⟨by decide, rfl⟩ (by decide) ⟨oLe rfl, oLe rfl⟩ rfl (ds' := ((ka3, oA (.object "java/lang/Object") [(.ref ka4), .null, .null, .null, .null, .null, .null, .null, .null, .null]) :: (ka5, oA .int [o0, o0, o0, o0, o0, o0, o0, o0, o0, o0, o0, o0, o0, o0, o0, o0]) :: (ka6, oA .int oHd0) :: (ka7, oA .int [o0, (.int (1 : Int32)), (.int (2 : Int32))]) :: (ka4, oO cn3 [(fk18, (.ref ka7)), (fk19, (.ref ka6)), (fk20, (.ref ka5))]) :: e5 :: e6 :: (ka8, oA .int [(.int ia1), (.int ia2), (.int ia3), o0, o0, o0, o0, o0, o0, o0, o0, o0, o0, o0, o0, o0, o0, o0, o0, o0, o0, o0, o0, o0, o0, o0, o0, o0, o0, o0, o0, o0, o0, o0, o0, o0, o0, o0, o0, o0, o0, o0, o0, o0, o0, o0, o0, o0]) :: (ka9, oO cn1 [(fk11, (.int (1 : Int32))), (fk12, (.ref ka3)), (fk13, (.int (1 : Int32)))]) :: (ka1, oO cn0 [(fk0, (.ref ka9)), (fk1, (.ref ka10)), (fk2, (.int (3 : Int32))), (fk3, (.int (2147483639 : Int32))), (fk4, (.int (1073741824 : Int32))), (fk5, (.ref ka8)), (fk6, (.ref ka11)), (fk7, .null), (fk8, (.int (0 : Int32))), (fk9, (.int (0 : Int32))), (fk10, (.ref ka4))]) :: e10 :: e11 :: e12 :: (ka2, oA .int [(.int ia1), (.int ia2), (.int ia3)]) :: ds)) rfl (W := 0) (oLe rfl) (by decide) ?_
  intro T B
  refine W_aloadN B (hb hby d34_107) (pc' := 108) rfl rfl rfl ?_
  refine W_dup B (hb hby d34_108) (pc' := 109) rfl rfl ?_
  refine W_getfield B hown (host := "") (Or.inl (ow hw (i := 198) rfl)) Via.refl (hb hby d34_109) (pc' := 112) rfl (j := 9) rfl (q := 9) rfl ?_
  intro T B
  refine W_dupX1 B (hb hby d34_112) (pc' := 113) rfl rfl rfl ?_
  refine W_iconst B (hb hby d34_113) (pc' := 114) rfl (z := (1 : Int32)) (by decide) ?_
  refine W_iadd B (hb hby d34_114) (pc' := 115) rfl (z := (1 : Int32)) (by decide) ?_
  refine W_putfield B hown (host := "") (Or.inl (ow hw (i := 198) rfl)) Via.refl (hb hby d34_115) (pc' := 118) rfl (Or.inl (ow hw (i := 199) rfl)) (ow hw (i := 2) rfl) (ty := .int) (by decide) rfl rfl (j := 9) rfl (q := 9) rfl (ds' := ((ka3, oA (.object "java/lang/Object") [(.ref ka4), .null, .null, .null, .null, .null, .null, .null, .null, .null]) :: (ka5, oA .int [o0, o0, o0, o0, o0, o0, o0, o0, o0, o0, o0, o0, o0, o0, o0, o0]) :: (ka6, oA .int oHd0) :: (ka7, oA .int [o0, (.int (1 : Int32)), (.int (2 : Int32))]) :: (ka4, oO cn3 [(fk18, (.ref ka7)), (fk19, (.ref ka6)), (fk20, (.ref ka5))]) :: e5 :: e6 :: (ka8, oA .int [(.int ia1), (.int ia2), (.int ia3), o0, o0, o0, o0, o0, o0, o0, o0, o0, o0, o0, o0, o0, o0, o0, o0, o0, o0, o0, o0, o0, o0, o0, o0, o0, o0, o0, o0, o0, o0, o0, o0, o0, o0, o0, o0, o0, o0, o0, o0, o0, o0, o0, o0, o0]) :: (ka9, oO cn1 [(fk11, (.int (1 : Int32))), (fk12, (.ref ka3)), (fk13, (.int (1 : Int32)))]) :: (ka1, oO cn0 [(fk0, (.ref ka9)), (fk1, (.ref ka10)), (fk2, (.int (3 : Int32))), (fk3, (.int (2147483639 : Int32))), (fk4, (.int (1073741824 : Int32))), (fk5, (.ref ka8)), (fk6, (.ref ka11)), (fk7, .null), (fk8, (.int (0 : Int32))), (fk9, (.int (1 : Int32))), (fk10, (.ref ka4))]) :: e10 :: e11 :: e12 :: (ka2, oA .int [(.int ia1), (.int ia2), (.int ia3)]) :: ds)) rfl ?_
  intro T B
  refine W_istoreN B (hb hby d34_118) (pc' := 119) rfl (v := (0 : Int32)) rfl (ls' := #[.val (.ref ka1), .val (.ref ka2), .val (.int (0 : Int32)), .unset, .unset]) rfl ?_
  refine W_aloadN B (hb hby d34_119) (pc' := 120) rfl rfl rfl ?_
  refine W_getfield B hown (host := "") (Or.inl (ow hw (i := 46) rfl)) Via.refl (hb hby d34_120) (pc' := 123) rfl (j := 9) rfl (q := 0) rfl ?_
  intro T B
  refine W_iface B (xi := (⟨"java/util/List", "iterator", "()Ljava/util/Iterator;"⟩ : MethodName)) (y := (⟨"java/util/ArrayList", "iterator", "()Ljava/util/Iterator;"⟩ : MethodName)) hown (ow hw (i := 94) rfl) (ow hw (i := 95) rfl) (ow hw (i := 96) rfl) (ow hw (i := 97) rfl) (ow hw (i := 98) rfl) (ow hw (i := 99) rfl) (ow hw (i := 100) rfl) (ow hw (i := 101) rfl) (ow hw (i := 24) rfl) (ow hw (i := 102) rfl) (by decide) (a := ka9) (rm_a34 l Z a0 hw h0 ka9 _ _ _ _ _ _ _ _ ka3 _ ) (lenOf pd_6 rfl) (hb hby d34_123) (pc' := 128) rfl (argsL := []) (rest := []) rfl (by rw [hml]; rfl) (W := 0) (oLe rfl) (j := 8) rfl (by decide) (cells' := 1) rfl (slots' := 4) rfl ?_
  intro T v_ d_ q_ B
  obtain ⟨b139, rfl, rfl⟩ := q_
  show oWin p e below Z h0 _ _ (T.setTop (mkF m 128 #[.val (.ref ka1), .val (.ref ka2), .val (.int (0 : Int32)), .unset, .unset] [(.ref b139)]))
  refine W_astoreN B (hb hby d34_128) (pc' := 129) rfl rfl (ls' := #[.val (.ref ka1), .val (.ref ka2), .val (.int (0 : Int32)), .val (.ref b139), .unset]) rfl ?_
  refine W_aloadN B (hb hby d34_129) (pc' := 130) rfl rfl rfl ?_
  refine W_iface B (xi := (⟨"java/util/Iterator", "hasNext", "()Z"⟩ : MethodName)) (y := (⟨"java/util/ArrayList$Itr", "hasNext", "()Z"⟩ : MethodName)) hown (ow hw (i := 119) rfl) (ow hw (i := 120) rfl) (ow hw (i := 121) rfl) (ow hw (i := 122) rfl) (ow hw (i := 123) rfl) (ow hw (i := 124) rfl) (ow hw (i := 125) rfl) (ow hw (i := 126) rfl) (ow hw (i := 105) rfl) (ow hw (i := 127) rfl) (by decide) (a := b139) (rm_a35 l Z a0 hw h0 b139 ka9 _ _ _ _ _ _ _ _ ka3 _ ) (lenOf pd_7 rfl) (hb hby d34_130) (pc' := 135) rfl (argsL := []) (rest := []) rfl (by rw [hml]; rfl) (W := 0) (oLe rfl) (j := 0) rfl (by decide) (cells' := 1) rfl (slots' := 4) rfl ?_
  intro T v_ d_ q_ B
  obtain ⟨rfl, rfl⟩ := q_
  show oWin p e below Z h0 _ _ (T.setTop (mkF m 135 #[.val (.ref ka1), .val (.ref ka2), .val (.int (0 : Int32)), .val (.ref b139), .unset] [(.int (1 : Int32))]))
  refine W_ifN B (hb hby d34_135) (pc' := 138) rfl (by decide) ?_
  refine W_aloadN B (hb hby d34_138) (pc' := 139) rfl rfl rfl ?_
  refine W_iface B (xi := (⟨"java/util/Iterator", "next", "()Ljava/lang/Object;"⟩ : MethodName)) (y := (⟨"java/util/ArrayList$Itr", "next", "()Ljava/lang/Object;"⟩ : MethodName)) hown (ow hw (i := 249) rfl) (ow hw (i := 250) rfl) (ow hw (i := 251) rfl) (ow hw (i := 252) rfl) (ow hw (i := 253) rfl) (ow hw (i := 254) rfl) (ow hw (i := 255) rfl) (ow hw (i := 126) rfl) (ow hw (i := 105) rfl) (ow hw (i := 256) rfl) (by decide) (a := b139) (rm_a37 l Z a0 hw h0 b139 ka9 ka3 ka4 _ _ _ _ _ _ _ _ ) (lenOf pd_21 rfl) (hb hby d34_139) (pc' := 144) rfl (argsL := []) (rest := []) rfl (by rw [hml]; rfl) (W := 0) (oLe rfl) (j := 0) rfl (by decide) (cells' := 1) rfl (slots' := 4) rfl ?_
  intro T v_ d_ q_ B
  obtain ⟨rfl, rfl⟩ := q_
  show oWin p e below Z h0 _ _ (T.setTop (mkF m 144 #[.val (.ref ka1), .val (.ref ka2), .val (.int (0 : Int32)), .val (.ref b139), .unset] [(.ref ka4)]))
  refine W_castObj B hown (ow hw (i := 263) rfl) (j := 5) rfl (Or.inr (ow hw (i := 264) rfl)) (hb hby d34_144) (pc' := 147) rfl ?_
  intro T B
  refine W_astore B (hb hby d34_147) (pc' := 149) rfl rfl (ls' := #[.val (.ref ka1), .val (.ref ka2), .val (.int (0 : Int32)), .val (.ref b139), .val (.ref ka4)]) rfl ?_
  refine W_aloadN B (hb hby d34_149) (pc' := 150) rfl rfl rfl ?_
  refine W_aload B (hb hby d34_150) (pc' := 152) rfl rfl rfl ?_
  refine W_castObj (a0 := a0) B hown (ow hw (i := 136) rfl) (j := 5) rfl (Or.inl rfl) (hb hby d34_152) (pc' := 155) rfl ?_
  intro T B
  refine W_iloadN B (hb hby d34_155) (pc' := 156) rfl rfl ?_
  refine W_privateS B (y := (⟨"com/example/tanglemark/tanglemark/datalog/Relation", "insert", "(Lcom/example/tanglemark/tanglemark/datalog/Relation$Chains;I)V"⟩ : MethodName)) hown (ow hw (i := 265) rfl) (ow hw (i := 266) rfl) (ow hw (i := 2) rfl) (ow hw (i := 267) rfl) (ow hw (i := 3) rfl) (ow hw (i := 268) rfl) (by decide) (a := ka1) (rm_a40 l Z a0 hw h0 ka1 ka4 _ _ ka5 ka6 ka7 _ _ ka8 ia1 ia2 ia3 _ ka9 ka10 ka11 _ hy0 hy1 hy2 hy3) (lenOf pd_23 rfl) (hb hby d34_156) (pc' := 159) rfl (argsL := [(.ref ka4), (.int (0 : Int32))]) (rest := []) rfl (by rw [hml]; rfl) (W := 0) (oLe rfl) (j := 10) rfl (by decide) (cells' := 1) rfl (slots' := 4) rfl ?_
  intro T v_ d_ q_ B
  obtain ⟨rfl, rfl⟩ := q_
  show oWin p e below Z h0 _ _ (T.setTop (mkF m 159 #[.val (.ref ka1), .val (.ref ka2), .val (.int (0 : Int32)), .val (.ref b139), .val (.ref ka4)] []))
  refine W_goto B (hb hby d34_159) (by decide) (pc' := 129) (by decide) ?_
  refine W_aloadN B (hb hby d34_129) (pc' := 130) rfl rfl rfl ?_
  refine W_iface B (xi := (⟨"java/util/Iterator", "hasNext", "()Z"⟩ : MethodName)) (y := (⟨"java/util/ArrayList$Itr", "hasNext", "()Z"⟩ : MethodName)) hown (ow hw (i := 119) rfl) (ow hw (i := 120) rfl) (ow hw (i := 121) rfl) (ow hw (i := 122) rfl) (ow hw (i := 123) rfl) (ow hw (i := 124) rfl) (ow hw (i := 125) rfl) (ow hw (i := 126) rfl) (ow hw (i := 105) rfl) (ow hw (i := 127) rfl) (by decide) (a := b139) (rm_a41 l Z a0 hw h0 b139 ka9 _ _ _ _ _ _ _ _ ka3 _ ) (lenOf pd_7 rfl) (hb hby d34_130) (pc' := 135) rfl (argsL := []) (rest := []) rfl (by rw [hml]; rfl) (W := 0) (oLe rfl) (j := 0) rfl (by decide) (cells' := 1) rfl (slots' := 4) rfl ?_
  intro T v_ d_ q_ B
  obtain ⟨rfl, rfl⟩ := q_
  show oWin p e below Z h0 _ _ (T.setTop (mkF m 135 #[.val (.ref ka1), .val (.ref ka2), .val (.int (0 : Int32)), .val (.ref b139), .val (.ref ka4)] [(.int (0 : Int32))]))
  refine W_ifY B (hb hby d34_135) (by decide) (pc' := 162) (by decide) (by decide) ?_
  refine W_retV B hret (hb hby d34_162) (by decide) ?_
  exact ⟨b139, rfl, rfl⟩
theorem d25_15 : decode prog_45_method_8_code 15 = .ok (.iconst 1, 1) := by decide +kernel
theorem d25_16 : decode prog_45_method_8_code 16 = .ok (.ireturn, 1) := by decide +kernel
theorem ef_rm_a43 (m : MethodId) (x0 : Addr) (x1 : Addr) : entryFrame m #[(.ref x0), (.ref x1)] 2 = mkF m 0 #[.val (.ref x0), .val (.ref x1)] [] := by first | (simp [entryFrame, mkF, argsToLocals, Value.category]; done) | rfl
set_option maxRecDepth 65536 in
set_option maxHeartbeats 40000000 in
theorem rm_a43 (l : Launch) (Z : State) (a0 : Array Value) (hw : ∀ d ∈ tables_1, d.before a0 Z = true) (h0 : Heap) {lo : Nat} (ka1 : Addr) (ka2 : Addr) (ka3 : Addr) (ka4 : Addr) (ka5 : Addr) (ka6 : Addr) (ka7 : Addr) (e5 : Addr × oD) (e6 : Addr × oD) (ka8 : Addr) (ka9 : Addr) (ka10 : Addr) (ka11 : Addr) (e10 : Addr × oD) (e11 : Addr × oD) (e12 : Addr × oD) (ia1 : Int32) (ia2 : Int32) (ia3 : Int32) (ds : oDs) (hy0 : ((oH ia1 ia2 ia3) &&& (15 : Int32)).toNatClampNeg < oHd0.length) (hy1 : oHd0.length.toInt32 = (16 : Int32)) (hy2 : oHd0[((oH ia1 ia2 ia3) &&& (15 : Int32)).toNatClampNeg]? = some (.int (-1 : Int32))) (hy3 : ¬ ((oH ia1 ia2 ia3) &&& (15 : Int32)) < (0 : Int32)) :
    oMet l Z h0 lo (⟨"com/example/tanglemark/tanglemark/datalog/Relation", "add", "([I)Z"⟩ : MethodName) prog_45_method_8_code 2 (some .boolean) [] ({ frames := 5, cells := 1, slots := 4, locals := 78 } : Room) #[(.ref ka1), (.ref ka2)] ((ka3, oA (.object "java/lang/Object") [(.ref ka4), .null, .null, .null, .null, .null, .null, .null, .null, .null]) :: (ka5, oA .int [o0, o0, o0, o0, o0, o0, o0, o0, o0, o0, o0, o0, o0, o0, o0, o0]) :: (ka6, oA .int oHd0) :: (ka7, oA .int [o0, (.int (1 : Int32)), (.int (2 : Int32))]) :: (ka4, oO cn3 [(fk18, (.ref ka7)), (fk19, (.ref ka6)), (fk20, (.ref ka5))]) :: e5 :: e6 :: (ka8, oA .int [o0, o0, o0, o0, o0, o0, o0, o0, o0, o0, o0, o0, o0, o0, o0, o0, o0, o0, o0, o0, o0, o0, o0, o0, o0, o0, o0, o0, o0, o0, o0, o0, o0, o0, o0, o0, o0, o0, o0, o0, o0, o0, o0, o0, o0, o0, o0, o0]) :: (ka9, oO cn1 [(fk11, (.int (1 : Int32))), (fk12, (.ref ka3)), (fk13, (.int (1 : Int32)))]) :: (ka1, oO cn0 [(fk0, (.ref ka9)), (fk1, (.ref ka10)), (fk2, (.int (3 : Int32))), (fk3, (.int (2147483639 : Int32))), (fk4, (.int (1073741824 : Int32))), (fk5, (.ref ka8)), (fk6, (.ref ka11)), (fk7, .null), (fk8, (.int (0 : Int32))), (fk9, (.int (0 : Int32))), (fk10, (.ref ka4))]) :: e10 :: e11 :: e12 :: (ka2, oA .int [(.int ia1), (.int ia2), (.int ia3)]) :: ds) (fun (v : Option Value) (d : oDs) => (∃ (b142 : Addr), v = some (.int (1 : Int32)) ∧ ((b142, oO cn2 [(fk14, (.ref ka9)), (fk15, (.int (0 : Int32))), (fk16, (.int (1 : Int32))), (fk17, (.int (1 : Int32)))]) :: (ka3, oA (.object "java/lang/Object") [(.ref ka4), .null, .null, .null, .null, .null, .null, .null, .null, .null]) :: (ka5, oA .int [(.int (-1 : Int32)), o0, o0, o0, o0, o0, o0, o0, o0, o0, o0, o0, o0, o0, o0, o0]) :: (ka6, oA .int (oHd0.set ((oH ia1 ia2 ia3) &&& (15 : Int32)).toNatClampNeg (.int (0 : Int32)))) :: (ka7, oA .int [o0, (.int (1 : Int32)), (.int (2 : Int32))]) :: (ka4, oO cn3 [(fk18, (.ref ka7)), (fk19, (.ref ka6)), (fk20, (.ref ka5))]) :: e5 :: e6 :: (ka8, oA .int [(.int ia1), (.int ia2), (.int ia3), o0, o0, o0, o0, o0, o0, o0, o0, o0, o0, o0, o0, o0, o0, o0, o0, o0, o0, o0, o0, o0, o0, o0, o0, o0, o0, o0, o0, o0, o0, o0, o0, o0, o0, o0, o0, o0, o0, o0, o0, o0, o0, o0, o0, o0]) :: (ka9, oO cn1 [(fk11, (.int (1 : Int32))), (fk12, (.ref ka3)), (fk13, (.int (1 : Int32)))]) :: (ka1, oO cn0 [(fk0, (.ref ka9)), (fk1, (.ref ka10)), (fk2, (.int (3 : Int32))), (fk3, (.int (2147483639 : Int32))), (fk4, (.int (1073741824 : Int32))), (fk5, (.ref ka8)), (fk6, (.ref ka11)), (fk7, .null), (fk8, (.int (0 : Int32))), (fk9, (.int (1 : Int32))), (fk10, (.ref ka4))]) :: e10 :: e11 :: e12 :: (ka2, oA .int [(.int ia1), (.int ia2), (.int ia3)]) :: ds) = d)) := by
  refine oMet.of_body (plainFor_of_name pn_9) ?_
  intro p e s m below meth c T B hby hml hown hnm hret
  refine W_entry (ef_rm_a43 m ka1 ka2) ?_
  refine W_aloadN B (hb hby d25_0) (pc' := 1) rfl rfl rfl ?_
  refine W_aloadN B (hb hby d25_1) (pc' := 2) rfl rfl rfl ?_
  refine W_virtual B (y := (⟨"com/example/tanglemark/tanglemark/datalog/Relation", "contains", "([I)Z"⟩ : MethodName)) (z := (⟨"com/example/tanglemark/tanglemark/datalog/Relation", "contains", "([I)Z"⟩ : MethodName)) hown (ow hw (i := 207) rfl) (ow hw (i := 208) rfl) (oNotFace B (ow hw (i := 210) rfl) rfl) (ow hw (i := 210) rfl) (ow hw (i := 209) rfl) (ow hw (i := 3) rfl) (ow hw (i := 211) rfl) (by decide) (a := ka1) (rm_a32 l Z a0 hw h0 ka1 ka2 _ _ ka6 _ ka4 ka7 ka5 _ _ _ _ ka9 ka10 ka8 ka11 _ _ _ ia1 ia2 ia3 _ hy1 hy2 hy3) (lenOf pd_20 rfl) (hb hby d25_2) (pc' := 5) rfl (argsL := [(.ref ka2)]) (rest := []) rfl (by rw [hml]; rfl) (W := 0) (oLe rfl) (j := 9) rfl (by decide) (cells' := 0) rfl (slots' := 0) rfl ?_
  intro T v_ d_ q_ B
  obtain ⟨rfl, rfl⟩ := q_
  show oWin p e below Z h0 _ _ (T.setTop (mkF m 5 #[.val (.ref ka1), .val (.ref ka2)] [(.int (0 : Int32))]))
  refine W_ifY B (hb hby d25_5) (by decide) (pc' := 10) (by decide) (by decide) ?_
  refine W_aloadN B (hb hby d25_10) (pc' := 11) rfl rfl rfl ?_
  refine W_aloadN B (hb hby d25_11) (pc' := 12) rfl rfl rfl ?_
  refine W_virtual B (y := (⟨"com/example/tanglemark/tanglemark/datalog/Relation", "append", "([I)V"⟩ : MethodName)) (z := (⟨"com/example/tanglemark/tanglemark/datalog/Relation", "append", "([I)V"⟩ : MethodName)) hown (ow hw (i := 240) rfl) (ow hw (i := 241) rfl) (oNotFace B (ow hw (i := 243) rfl) rfl) (ow hw (i := 243) rfl) (ow hw (i := 242) rfl) (ow hw (i := 3) rfl) (ow hw (i := 244) rfl) (by decide) (a := ka1) (rm_a42 l Z a0 hw h0 ka1 ka2 ka3 ka4 ka5 ka6 ka7 _ _ ka8 ka9 ka10 ka11 _ _ _ ia1 ia2 ia3 _ hy0 hy1 hy2 hy3) (lenOf pd_8 rfl) (hb hby d25_12) (pc' := 15) rfl (argsL := [(.ref ka2)]) (rest := []) rfl (by rw [hml]; rfl) (W := 0) (oLe rfl) (j := 9) rfl (by decide) (cells' := 1) rfl (slots' := 4) rfl ?_
  intro T v_ d_ q_ B
  obtain ⟨b142, rfl, rfl⟩ := q_
  show oWin p e below Z h0 _ _ (T.setTop (mkF m 15 #[.val (.ref ka1), .val (.ref ka2)] []))
  refine W_iconst B (hb hby d25_15) (pc' := 16) rfl (z := (1 : Int32)) (by decide) ?_
  refine W_retN B hret (by simp) (hb hby d25_16) (by decide) ?_
  exact ⟨b142, rfl, rfl⟩
theorem ef_rm_a44 (m : MethodId) (x0 : Addr) : entryFrame m #[(.ref x0)] 1 = mkF m 0 #[.val (.ref x0)] [] := by first | (simp [entryFrame, mkF, argsToLocals, Value.category]; done) | rfl
set_option maxRecDepth 65536 in
set_option maxHeartbeats 40000000 in
theorem rm_a44 (l : Launch) (Z : State) (a0 : Array Value) (hw : ∀ d ∈ tables_1, d.before a0 Z = true) (h0 : Heap) {lo : Nat} (ka1 : Addr) (e0 : Addr × oD) (e1 : Addr × oD) (e2 : Addr × oD) (e3 : Addr × oD) (e4 : Addr × oD) (e5 : Addr × oD) (e6 : Addr × oD) (e7 : Addr × oD) (e8 : Addr × oD) (e9 : Addr × oD) (ka2 : Addr) (ka3 : Addr) (ka4 : Addr) (ka5 : Addr) (ka6 : Addr) (ds : oDs) :
    oMet l Z h0 lo (⟨"com/example/tanglemark/tanglemark/datalog/Relation", "requireOpen", "()V"⟩ : MethodName) prog_45_method_16_code 1 none [] ({ frames := 0, cells := 0, slots := 0, locals := 0 } : Room) #[(.ref ka1)] (e0 :: e1 :: e2 :: e3 :: e4 :: e5 :: e6 :: e7 :: e8 :: e9 :: (ka1, oO cn0 [(fk0, (.ref ka2)), (fk1, (.ref ka3)), (fk2, (.int (3 : Int32))), (fk3, (.int (2147483639 : Int32))), (fk4, (.int (1073741824 : Int32))), (fk5, (.ref ka4)), (fk6, (.ref ka5)), (fk7, .null), (fk8, (.int (0 : Int32))), (fk9, (.int (1 : Int32))), (fk10, (.ref ka6))]) :: ds) (fun (v : Option Value) (d : oDs) => (v = none ∧ (e0 :: e1 :: e2 :: e3 :: e4 :: e5 :: e6 :: e7 :: e8 :: e9 :: (ka1, oO cn0 [(fk0, (.ref ka2)), (fk1, (.ref ka3)), (fk2, (.int (3 : Int32))), (fk3, (.int (2147483639 : Int32))), (fk4, (.int (1073741824 : Int32))), (fk5, (.ref ka4)), (fk6, (.ref ka5)), (fk7, .null), (fk8, (.int (0 : Int32))), (fk9, (.int (1 : Int32))), (fk10, (.ref ka6))]) :: ds) = d)) := by
  refine oMet.of_body (plainFor_of_name pn_9) ?_
  intro p e s m below meth c T B hby hml hown hnm hret
  refine W_entry (ef_rm_a44 m ka1) ?_
  refine W_aloadN B (hb hby d28_0) (pc' := 1) rfl rfl rfl ?_
  refine W_getfield B hown (host := "") (Or.inl (ow hw (i := 134) rfl)) Via.refl (hb hby d28_1) (pc' := 4) rfl (j := 10) rfl (q := 8) rfl ?_
  intro T B
  refine W_ifY B (hb hby d28_4) (by decide) (pc' := 24) (by decide) (by decide) ?_
  refine W_retV B hret (hb hby d28_24) (by decide) ?_
  exact ⟨rfl, rfl⟩
theorem ef_rm_a45 (m : MethodId) (x0 : Addr) (x1 : Int32) : entryFrame m #[(.ref x0), (.int x1)] 2 = mkF m 0 #[.val (.ref x0), .val (.int x1)] [] := by first | (simp [entryFrame, mkF, argsToLocals, Value.category]; done) | rfl
set_option maxRecDepth 65536 in
set_option maxHeartbeats 40000000 in
theorem rm_a45 (l : Launch) (Z : State) (a0 : Array Value) (hw : ∀ d ∈ tables_1, d.before a0 Z = true) (h0 : Heap) {lo : Nat} (ka1 : Addr) (ia1 : Int32) (ia2 : Int32) (ia3 : Int32) (e0 : Addr × oD) (e1 : Addr × oD) (e2 : Addr × oD) (ka2 : Addr) (e4 : Addr × oD) (ka3 : Addr) (ka4 : Addr) (ds : oDs) (hy0 : (oHd0.set ((oH ia1 ia2 ia3) &&& (15 : Int32)).toNatClampNeg (.int (0 : Int32))).length.toInt32 = (16 : Int32)) (hy1 : (oHd0.set ((oH ia1 ia2 ia3) &&& (15 : Int32)).toNatClampNeg (.int (0 : Int32)))[((oH ia1 ia2 ia3) &&& (15 : Int32)).toNatClampNeg]? = some (.int (0 : Int32))) (hy2 : ¬ ((oH ia1 ia2 ia3) &&& (15 : Int32)) < (0 : Int32)) :
    oMet l Z h0 lo (⟨"com/example/tanglemark/tanglemark/datalog/Relation", "first", "(Lcom/example/tanglemark/tanglemark/datalog/Relation$Chains;I)I"⟩ : MethodName) prog_45_method_28_code 2 (some .int) [] ({ frames := 0, cells := 0, slots := 0, locals := 0 } : Room) #[(.ref ka1), (.int (oH ia1 ia2 ia3))] (e0 :: e1 :: e2 :: (ka2, oA .int (oHd0.set ((oH ia1 ia2 ia3) &&& (15 : Int32)).toNatClampNeg (.int (0 : Int32)))) :: e4 :: (ka1, oO cn3 [(fk18, (.ref ka3)), (fk19, (.ref ka2)), (fk20, (.ref ka4))]) :: ds) (fun (v : Option Value) (d : oDs) => (v = some (.int (0 : Int32)) ∧ (e0 :: e1 :: e2 :: (ka2, oA .int (oHd0.set ((oH ia1 ia2 ia3) &&& (15 : Int32)).toNatClampNeg (.int (0 : Int32)))) :: e4 :: (ka1, oO cn3 [(fk18, (.ref ka3)), (fk19, (.ref ka2)), (fk20, (.ref ka4))]) :: ds) = d)) := by
  refine oMet.of_body (plainFor_of_name pn_9) ?_
  intro p e s m below meth c T B hby hml hown hnm hret
  refine W_entry (ef_rm_a45 m ka1 (oH ia1 ia2 ia3)) ?_
  refine W_aloadN B (hb hby d33_0) (pc' := 1) rfl rfl rfl ?_
  refine W_getfieldR B hown (ow hw (i := 239) rfl) (hb hby d33_1) (pc' := 4) rfl (j := 5) rfl (q := 1) rfl ?_
  refine W_iloadN B (hb hby d33_4) (pc' := 5) rfl rfl ?_
  refine W_aloadN B (hb hby d33_5) (pc' := 6) rfl rfl rfl ?_
  refine W_getfieldR B hown (ow hw (i := 239) rfl) (hb hby d33_6) (pc' := 9) rfl (j := 5) rfl (q := 1) rfl ?_
  refine W_arraylength B (hb hby d33_9) (pc' := 10) rfl (j := 3) rfl (z := (16 : Int32)) hy0 ?_
  refine W_iconst B (hb hby d33_10) (pc' := 11) rfl (z := (1 : Int32)) (by decide) ?_
  refine W_isub B (hb hby d33_11) (pc' := 12) rfl (z := (15 : Int32)) (by decide) ?_
  refine W_iand B (hb hby d33_12) (pc' := 13) rfl (z := ((oH ia1 ia2 ia3) &&& (15 : Int32))) rfl ?_
  refine W_iaload B (hb hby d33_13) (pc' := 14) rfl (i := 3) rfl hy2 (v := (.int (0 : Int32))) hy1 ?_
  refine W_retI B hret (hb hby d33_14) (by decide) ?_
  exact ⟨rfl, rfl⟩
theorem d29_15 : decode prog_45_method_15_code 15 = .ok (.iload 4, 2) := by decide +kernel
theorem d29_17 : decode prog_45_method_15_code 17 = .ok (.iload_n 3, 1) := by decide +kernel
theorem d29_18 : decode prog_45_method_15_code 18 = .ok (.if_icmp .ge 20, 3) := by decide +kernel
theorem d29_21 : decode prog_45_method_15_code 21 = .ok (.aload_n 0, 1) := by decide +kernel
theorem d29_22 : decode prog_45_method_15_code 22 = .ok (.iload 4, 2) := by decide +kernel
theorem d29_24 : decode prog_45_method_15_code 24 = .ok (.aload_n 1, 1) := by decide +kernel
theorem d29_25 : decode prog_45_method_15_code 25 = .ok (.getfield 193, 3) := by decide +kernel
theorem d29_28 : decode prog_45_method_15_code 28 = .ok (.aload_n 2, 1) := by decide +kernel
theorem d29_29 : decode prog_45_method_15_code 29 = .ok (.invokevirtual 196, 3) := by decide +kernel
theorem d40_0 : decode prog_45_method_17_code 0 = .ok (.iload_n 1, 1) := by decide +kernel
theorem d40_1 : decode prog_45_method_17_code 1 = .ok (.aload_n 0, 1) := by decide +kernel
theorem d40_2 : decode prog_45_method_17_code 2 = .ok (.getfield 26, 3) := by decide +kernel
theorem d40_5 : decode prog_45_method_17_code 5 = .ok (.imul, 1) := by decide +kernel
theorem d40_6 : decode prog_45_method_17_code 6 = .ok (.istore 4, 2) := by decide +kernel
theorem d40_8 : decode prog_45_method_17_code 8 = .ok (.iconst 0, 1) := by decide +kernel
theorem d40_9 : decode prog_45_method_17_code 9 = .ok (.istore 5, 2) := by decide +kernel
theorem d40_11 : decode prog_45_method_17_code 11 = .ok (.iload 5, 2) := by decide +kernel
theorem d40_13 : decode prog_45_method_17_code 13 = .ok (.aload_n 2, 1) := by decide +kernel
theorem d40_14 : decode prog_45_method_17_code 14 = .ok (.arraylength, 1) := by decide +kernel
theorem d40_15 : decode prog_45_method_17_code 15 = .ok (.if_icmp .ge 30, 3) := by decide +kernel
theorem d40_18 : decode prog_45_method_17_code 18 = .ok (.aload_n 0, 1) := by decide +kernel
theorem d40_19 : decode prog_45_method_17_code 19 = .ok (.getfield 46, 3) := by decide +kernel
theorem d40_22 : decode prog_45_method_17_code 22 = .ok (.iload 4, 2) := by decide +kernel
theorem d40_24 : decode prog_45_method_17_code 24 = .ok (.aload_n 2, 1) := by decide +kernel
theorem d40_25 : decode prog_45_method_17_code 25 = .ok (.iload 5, 2) := by decide +kernel
theorem d40_27 : decode prog_45_method_17_code 27 = .ok (.iaload, 1) := by decide +kernel
theorem d40_28 : decode prog_45_method_17_code 28 = .ok (.iadd, 1) := by decide +kernel
theorem d40_29 : decode prog_45_method_17_code 29 = .ok (.iaload, 1) := by decide +kernel
theorem d40_30 : decode prog_45_method_17_code 30 = .ok (.aload_n 3, 1) := by decide +kernel
theorem d40_31 : decode prog_45_method_17_code 31 = .ok (.iload 5, 2) := by decide +kernel
theorem d40_33 : decode prog_45_method_17_code 33 = .ok (.iaload, 1) := by decide +kernel
theorem d40_34 : decode prog_45_method_17_code 34 = .ok (.if_icmp .eq 5, 3) := by decide +kernel
theorem d40_39 : decode prog_45_method_17_code 39 = .ok (.iinc 5 1, 3) := by decide +kernel
theorem d40_42 : decode prog_45_method_17_code 42 = .ok (.goto (-31), 3) := by decide +kernel
theorem d40_45 : decode prog_45_method_17_code 45 = .ok (.iconst 1, 1) := by decide +kernel
theorem d40_46 : decode prog_45_method_17_code 46 = .ok (.ireturn, 1) := by decide +kernel
theorem ef_rm_a46 (m : MethodId) (x0 : Addr) (x2 : Addr) (x3 : Addr) : entryFrame m #[(.ref x0), (.int (0 : Int32)), (.ref x2), (.ref x3)] 6 = mkF m 0 #[.val (.ref x0), .val (.int (0 : Int32)), .val (.ref x2), .val (.ref x3), .unset, .unset] [] := by first | (simp [entryFrame, mkF, argsToLocals, Value.category]; done) | rfl
set_option maxRecDepth 65536 in
set_option maxHeartbeats 40000000 in
theorem rm_a46 (l : Launch) (Z : State) (a0 : Array Value) (hw : ∀ d ∈ tables_1, d.before a0 Z = true) (h0 : Heap) {lo : Nat} (ka1 : Addr) (ka2 : Addr) (ka3 : Addr) (e0 : Addr × oD) (e1 : Addr × oD) (e2 : Addr × oD) (e3 : Addr × oD) (e5 : Addr × oD) (e6 : Addr × oD) (e7 : Addr × oD) (ka4 : Addr) (ia1 : Int32) (ia2 : Int32) (ia3 : Int32) (e9 : Addr × oD) (ka5 : Addr) (ka6 : Addr) (ka7 : Addr) (ka8 : Addr) (e11 : Addr × oD) (e12 : Addr × oD) (ds : oDs) :
    oMet l Z h0 lo (⟨"com/example/tanglemark/tanglemark/datalog/Relation", "hasKey", "(I[I[I)Z"⟩ : MethodName) prog_45_method_17_code 6 (some .boolean) [] ({ frames := 0, cells := 0, slots := 0, locals := 0 } : Room) #[(.ref ka1), (.int (0 : Int32)), (.ref ka2), (.ref ka3)] (e0 :: e1 :: e2 :: e3 :: (ka2, oA .int [o0, (.int (1 : Int32)), (.int (2 : Int32))]) :: e5 :: e6 :: e7 :: (ka4, oA .int [(.int ia1), (.int ia2), (.int ia3), o0, o0, o0, o0, o0, o0, o0, o0, o0, o0, o0, o0, o0, o0, o0, o0, o0, o0, o0, o0, o0, o0, o0, o0, o0, o0, o0, o0, o0, o0, o0, o0, o0, o0, o0, o0, o0, o0, o0, o0, o0, o0, o0, o0, o0]) :: e9 :: (ka1, oO cn0 [(fk0, (.ref ka5)), (fk1, (.ref ka6)), (fk2, (.int (3 : Int32))), (fk3, (.int (2147483639 : Int32))), (fk4, (.int (1073741824 : Int32))), (fk5, (.ref ka4)), (fk6, (.ref ka7)), (fk7, .null), (fk8, (.int (0 : Int32))), (fk9, (.int (1 : Int32))), (fk10, (.ref ka8))]) :: e11 :: e12 :: (ka3, oA .int [(.int ia1), (.int ia2), (.int ia3)]) :: ds) (fun (v : Option Value) (d : oDs) => (v = some (.int (1 : Int32)) ∧ (e0 :: e1 :: e2 :: e3 :: (ka2, oA .int [o0, (.int (1 : Int32)), (.int (2 : Int32))]) :: e5 :: e6 :: e7 :: (ka4, oA .int [(.int ia1), (.int ia2), (.int ia3), o0, o0, o0, o0, o0, o0, o0, o0, o0, o0, o0, o0, o0, o0, o0, o0, o0, o0, o0, o0, o0, o0, o0, o0, o0, o0, o0, o0, o0, o0, o0, o0, o0, o0, o0, o0, o0, o0, o0, o0, o0, o0, o0, o0, o0]) :: e9 :: (ka1, oO cn0 [(fk0, (.ref ka5)), (fk1, (.ref ka6)), (fk2, (.int (3 : Int32))), (fk3, (.int (2147483639 : Int32))), (fk4, (.int (1073741824 : Int32))), (fk5, (.ref ka4)), (fk6, (.ref ka7)), (fk7, .null), (fk8, (.int (0 : Int32))), (fk9, (.int (1 : Int32))), (fk10, (.ref ka8))]) :: e11 :: e12 :: (ka3, oA .int [(.int ia1), (.int ia2), (.int ia3)]) :: ds) = d)) := by
  refine oMet.of_body (plainFor_of_name pn_9) ?_
  intro p e s m below meth c T B hby hml hown hnm hret
  refine W_entry (ef_rm_a46 m ka1 ka2 ka3) ?_
  refine W_iloadN B (hb hby d40_0) (pc' := 1) rfl rfl ?_
  refine W_aloadN B (hb hby d40_1) (pc' := 2) rfl rfl rfl ?_
  refine W_getfield B hown (host := "") (Or.inl (ow hw (i := 50) rfl)) Via.refl (hb hby d40_2) (pc' := 5) rfl (j := 10) rfl (q := 2) rfl ?_
  intro T B
  refine W_imul B (hb hby d40_5) (pc' := 6) rfl (z := (0 : Int32)) (by decide) ?_
  refine W_istore B (hb hby d40_6) (pc' := 8) rfl (v := (0 : Int32)) rfl (ls' := #[.val (.ref ka1), .val (.int (0 : Int32)), .val (.ref ka2), .val (.ref ka3), .val (.int (0 : Int32)), .unset]) rfl ?_
  refine W_iconst B (hb hby d40_8) (pc' := 9) rfl (z := (0 : Int32)) (by decide) ?_
  refine W_istore B (hb hby d40_9) (pc' := 11) rfl (v := (0 : Int32)) rfl (ls' := #[.val (.ref ka1), .val (.int (0 : Int32)), .val (.ref ka2), .val (.ref ka3), .val (.int (0 : Int32)), .val (.int (0 : Int32))]) rfl ?_
  refine W_iload B (hb hby d40_11) (pc' := 13) rfl rfl ?_
  refine W_aloadN B (hb hby d40_13) (pc' := 14) rfl rfl rfl ?_
  refine W_arraylength B (hb hby d40_14) (pc' := 15) rfl (j := 4) rfl (z := (3 : Int32)) rfl ?_
  refine W_icmpN B (hb hby d40_15) (pc' := 18) rfl (by decide) ?_
  refine W_aloadN B (hb hby d40_18) (pc' := 19) rfl rfl rfl ?_
  refine W_getfield B hown (host := "") (Or.inl (ow hw (i := 69) rfl)) Via.refl (hb hby d40_19) (pc' := 22) rfl (j := 10) rfl (q := 5) rfl ?_
  intro T B
  refine W_iload B (hb hby d40_22) (pc' := 24) rfl rfl ?_
  refine W_aloadN B (hb hby d40_24) (pc' := 25) rfl rfl rfl ?_
  refine W_iload B (hb hby d40_25) (pc' := 27) rfl rfl ?_
  refine W_iaload B (hb hby d40_27) (pc' := 28) rfl (i := 4) rfl (by decide) (v := (.int (0 : Int32))) rfl ?_
  refine W_iadd B (hb hby d40_28) (pc' := 29) rfl (z := (0 : Int32)) (by decide) ?_
  refine W_iaload B (hb hby d40_29) (pc' := 30) rfl (i := 8) rfl (by decide) (v := (.int ia1)) rfl ?_
  refine W_aloadN B (hb hby d40_30) (pc' := 31) rfl rfl rfl ?_
  refine W_iload B (hb hby d40_31) (pc' := 33) rfl rfl ?_
  refine W_iaload B (hb hby d40_33) (pc' := 34) rfl (i := 13) rfl (by decide) (v := (.int ia1)) rfl ?_
  refine W_icmpY B (hb hby d40_34) (by decide) (pc' := 39) (by decide) (teq (rfl : ia1 = ia1)).1 ?_
  refine W_iinc B (hb hby d40_39) (pc' := 42) rfl rfl (z := (1 : Int32)) (by decide) (ls' := #[.val (.ref ka1), .val (.int (0 : Int32)), .val (.ref ka2), .val (.ref ka3), .val (.int (0 : Int32)), .val (.int (1 : Int32))]) rfl ?_
  refine W_goto B (hb hby d40_42) (by decide) (pc' := 11) (by decide) ?_
  refine W_iload B (hb hby d40_11) (pc' := 13) rfl rfl ?_
  refine W_aloadN B (hb hby d40_13) (pc' := 14) rfl rfl rfl ?_
  refine W_arraylength B (hb hby d40_14) (pc' := 15) rfl (j := 4) rfl (z := (3 : Int32)) rfl ?_
  refine W_icmpN B (hb hby d40_15) (pc' := 18) rfl (by decide) ?_
  refine W_aloadN B (hb hby d40_18) (pc' := 19) rfl rfl rfl ?_
  refine W_getfield B hown (host := "") (Or.inl (ow hw (i := 69) rfl)) Via.refl (hb hby d40_19) (pc' := 22) rfl (j := 10) rfl (q := 5) rfl ?_
  intro T B
  refine W_iload B (hb hby d40_22) (pc' := 24) rfl rfl ?_
  refine W_aloadN B (hb hby d40_24) (pc' := 25) rfl rfl rfl ?_
  refine W_iload B (hb hby d40_25) (pc' := 27) rfl rfl ?_
  refine W_iaload B (hb hby d40_27) (pc' := 28) rfl (i := 4) rfl (by decide) (v := (.int (1 : Int32))) rfl ?_
  refine W_iadd B (hb hby d40_28) (pc' := 29) rfl (z := (1 : Int32)) (by decide) ?_
  refine W_iaload B (hb hby d40_29) (pc' := 30) rfl (i := 8) rfl (by decide) (v := (.int ia2)) rfl ?_
  refine W_aloadN B (hb hby d40_30) (pc' := 31) rfl rfl rfl ?_
  refine W_iload B (hb hby d40_31) (pc' := 33) rfl rfl ?_
  refine W_iaload B (hb hby d40_33) (pc' := 34) rfl (i := 13) rfl (by decide) (v := (.int ia2)) rfl ?_
  refine W_icmpY B (hb hby d40_34) (by decide) (pc' := 39) (by decide) (teq (rfl : ia2 = ia2)).1 ?_
  refine W_iinc B (hb hby d40_39) (pc' := 42) rfl rfl (z := (2 : Int32)) (by decide) (ls' := #[.val (.ref ka1), .val (.int (0 : Int32)), .val (.ref ka2), .val (.ref ka3), .val (.int (0 : Int32)), .val (.int (2 : Int32))]) rfl ?_
  refine W_goto B (hb hby d40_42) (by decide) (pc' := 11) (by decide) ?_
  refine W_iload B (hb hby d40_11) (pc' := 13) rfl rfl ?_
  refine W_aloadN B (hb hby d40_13) (pc' := 14) rfl rfl rfl ?_
  refine W_arraylength B (hb hby d40_14) (pc' := 15) rfl (j := 4) rfl (z := (3 : Int32)) rfl ?_
  refine W_icmpN B (hb hby d40_15) (pc' := 18) rfl (by decide) ?_
  refine W_aloadN B (hb hby d40_18) (pc' := 19) rfl rfl rfl ?_
  refine W_getfield B hown (host := "") (Or.inl (ow hw (i := 69) rfl)) Via.refl (hb hby d40_19) (pc' := 22) rfl (j := 10) rfl (q := 5) rfl ?_
  intro T B
  refine W_iload B (hb hby d40_22) (pc' := 24) rfl rfl ?_
  refine W_aloadN B (hb hby d40_24) (pc' := 25) rfl rfl rfl ?_
  refine W_iload B (hb hby d40_25) (pc' := 27) rfl rfl ?_
  refine W_iaload B (hb hby d40_27) (pc' := 28) rfl (i := 4) rfl (by decide) (v := (.int (2 : Int32))) rfl ?_
  refine W_iadd B (hb hby d40_28) (pc' := 29) rfl (z := (2 : Int32)) (by decide) ?_
  refine W_iaload B (hb hby d40_29) (pc' := 30) rfl (i := 8) rfl (by decide) (v := (.int ia3)) rfl ?_
  refine W_aloadN B (hb hby d40_30) (pc' := 31) rfl rfl rfl ?_
  refine W_iload B (hb hby d40_31) (pc' := 33) rfl rfl ?_
  refine W_iaload B (hb hby d40_33) (pc' := 34) rfl (i := 13) rfl (by decide) (v := (.int ia3)) rfl ?_
  refine W_icmpY B (hb hby d40_34) (by decide) (pc' := 39) (by decide) (teq (rfl : ia3 = ia3)).1 ?_
  refine W_iinc B (hb hby d40_39) (pc' := 42) rfl rfl (z := (3 : Int32)) (by decide) (ls' := #[.val (.ref ka1), .val (.int (0 : Int32)), .val (.ref ka2), .val (.ref ka3), .val (.int (0 : Int32)), .val (.int (3 : Int32))]) rfl ?_
  refine W_goto B (hb hby d40_42) (by decide) (pc' := 11) (by decide) ?_
  refine W_iload B (hb hby d40_11) (pc' := 13) rfl rfl ?_
  refine W_aloadN B (hb hby d40_13) (pc' := 14) rfl rfl rfl ?_
  refine W_arraylength B (hb hby d40_14) (pc' := 15) rfl (j := 4) rfl (z := (3 : Int32)) rfl ?_
  refine W_icmpY B (hb hby d40_15) (by decide) (pc' := 45) (by decide) (by decide) ?_
  refine W_iconst B (hb hby d40_45) (pc' := 46) rfl (z := (1 : Int32)) (by decide) ?_
  refine W_retN B hret (by simp) (hb hby d40_46) (by decide) ?_
  exact ⟨rfl, rfl⟩
theorem pd_24 : parseMethodDescriptor "(I[I[I)Z" = some ⟨[.int, (.array .int), (.array .int)], some .boolean⟩ := by decide +kernel
theorem d29_32 : decode prog_45_method_15_code 32 = .ok (.ifCond .eq 6, 3) := by decide +kernel
theorem d29_35 : decode prog_45_method_15_code 35 = .ok (.iload 4, 2) := by decide +kernel
theorem d29_37 : decode prog_45_method_15_code 37 = .ok (.ireturn, 1) := by decide +kernel
theorem ef_rm_a47 (m : MethodId) (x0 : Addr) (x1 : Addr) (x2 : Addr) : entryFrame m #[(.ref x0), (.ref x1), (.ref x2), (.int (1 : Int32))] 5 = mkF m 0 #[.val (.ref x0), .val (.ref x1), .val (.ref x2), .val (.int (1 : Int32)), .unset] [] := by first | (simp [entryFrame, mkF, argsToLocals, Value.category]; done) | rfl
set_option maxRecDepth 65536 in
set_option maxHeartbeats 40000000 in
theorem rm_a47 (l : Launch) (Z : State) (a0 : Array Value) (hw : ∀ d ∈ tables_1, d.before a0 Z = true) (h0 : Heap) {lo : Nat} (ka1 : Addr) (ka2 : Addr) (ka3 : Addr) (e0 : Addr × oD) (e1 : Addr × oD) (e2 : Addr × oD) (ka4 : Addr) (ia1 : Int32) (ia2 : Int32) (ia3 : Int32) (ka5 : Addr) (ka6 : Addr) (e6 : Addr × oD) (e7 : Addr × oD) (ka7 : Addr) (e9 : Addr × oD) (ka8 : Addr) (ka9 : Addr) (ka10 : Addr) (e11 : Addr × oD) (e12 : Addr × oD) (ds : oDs) (hy0 : (oHd0.set ((oH ia1 ia2 ia3) &&& (15 : Int32)).toNatClampNeg (.int (0 : Int32))).length.toInt32 = (16 : Int32)) (hy1 : (oHd0.set ((oH ia1 ia2 ia3) &&& (15 : Int32)).toNatClampNeg (.int (0 : Int32)))[((oH ia1 ia2 ia3) &&& (15 : Int32)).toNatClampNeg]? = some (.int (0 : Int32))) (hy2 : ¬ ((oH ia1 ia2 ia3) &&& (15 : Int32)) < (0 : Int32)) :
    oMet l Z h0 lo (⟨"com/example/tanglemark/tanglemark/datalog/Relation", "newest", "(Lcom/example/tanglemark/tanglemark/datalog/Relation$Chains;[II)I"⟩ : MethodName) prog_45_method_15_code 5 (some .int) [] ({ frames := 2, cells := 0, slots := 0, locals := 31 } : Room) #[(.ref ka1), (.ref ka2), (.ref ka3), (.int (1 : Int32))] (e0 :: e1 :: e2 :: (ka4, oA .int (oHd0.set ((oH ia1 ia2 ia3) &&& (15 : Int32)).toNatClampNeg (.int (0 : Int32)))) :: (ka5, oA .int [o0, (.int (1 : Int32)), (.int (2 : Int32))]) :: (ka2, oO cn3 [(fk18, (.ref ka5)), (fk19, (.ref ka4)), (fk20, (.ref ka6))]) :: e6 :: e7 :: (ka7, oA .int [(.int ia1), (.int ia2), (.int ia3), o0, o0, o0, o0, o0, o0, o0, o0, o0, o0, o0, o0, o0, o0, o0, o0, o0, o0, o0, o0, o0, o0, o0, o0, o0, o0, o0, o0, o0, o0, o0, o0, o0, o0, o0, o0, o0, o0, o0, o0, o0, o0, o0, o0, o0]) :: e9 :: (ka1, oO cn0 [(fk0, (.ref ka8)), (fk1, (.ref ka9)), (fk2, (.int (3 : Int32))), (fk3, (.int (2147483639 : Int32))), (fk4, (.int (1073741824 : Int32))), (fk5, (.ref ka7)), (fk6, (.ref ka10)), (fk7, .null), (fk8, (.int (0 : Int32))), (fk9, (.int (1 : Int32))), (fk10, (.ref ka2))]) :: e11 :: e12 :: (ka3, oA .int [(.int ia1), (.int ia2), (.int ia3)]) :: ds) (fun (v : Option Value) (d : oDs) => (v = some (.int (0 : Int32)) ∧ (e0 :: e1 :: e2 :: (ka4, oA .int (oHd0.set ((oH ia1 ia2 ia3) &&& (15 : Int32)).toNatClampNeg (.int (0 : Int32)))) :: (ka5, oA .int [o0, (.int (1 : Int32)), (.int (2 : Int32))]) :: (ka2, oO cn3 [(fk18, (.ref ka5)), (fk19, (.ref ka4)), (fk20, (.ref ka6))]) :: e6 :: e7 :: (ka7, oA .int [(.int ia1), (.int ia2), (.int ia3), o0, o0, o0, o0, o0, o0, o0, o0, o0, o0, o0, o0, o0, o0, o0, o0, o0, o0, o0, o0, o0, o0, o0, o0, o0, o0, o0, o0, o0, o0, o0, o0, o0, o0, o0, o0, o0, o0, o0, o0, o0, o0, o0, o0, o0]) :: e9 :: (ka1, oO cn0 [(fk0, (.ref ka8)), (fk1, (.ref ka9)), (fk2, (.int (3 : Int32))), (fk3, (.int (2147483639 : Int32))), (fk4, (.int (1073741824 : Int32))), (fk5, (.ref ka7)), (fk6, (.ref ka10)), (fk7, .null), (fk8, (.int (0 : Int32))), (fk9, (.int (1 : Int32))), (fk10, (.ref ka2))]) :: e11 :: e12 :: (ka3, oA .int [(.int ia1), (.int ia2), (.int ia3)]) :: ds) = d)) := by
  refine oMet.of_body (plainFor_of_name pn_9) ?_
  intro p e s m below meth c T B hby hml hown hnm hret
  refine W_entry (ef_rm_a47 m ka1 ka2 ka3) ?_
  refine W_aloadN B (hb hby d29_0) (pc' := 1) rfl rfl rfl ?_
  refine W_aloadN B (hb hby d29_1) (pc' := 2) rfl rfl rfl ?_
  refine W_callS B (y := (⟨"com/example/tanglemark/tanglemark/datalog/Relation", "hash", "([I)I"⟩ : MethodName)) hown (ow hw (i := 226) rfl) (ow hw (i := 227) rfl) (ow hw (i := 3) rfl) (ow hw (i := 228) rfl) (by decide) (rm_a28 l Z a0 hw h0 ka3 _ _ _ _ _ _ _ _ _ _ _ _ _ ia1 ia2 ia3 _ ) (lenOf pd_17 rfl) (hb hby d29_2) (pc' := 5) rfl (argsL := [(.ref ka3)]) (rest := [(.ref ka2)]) rfl (by rw [hml]; rfl) (W := 1) (oLe rfl) (by decide) (cells' := 0) rfl (slots' := 0) rfl ?_
  intro T v_ d_ q_ B
  obtain ⟨rfl, rfl⟩ := q_
  show oWin p e below Z h0 _ _ (T.setTop (mkF m 5 #[.val (.ref ka1), .val (.ref ka2), .val (.ref ka3), .val (.int (1 : Int32)), .unset] [(.int (oH ia1 ia2 ia3)), (.ref ka2)]))
  refine W_callS B (y := (⟨"com/example/tanglemark/tanglemark/datalog/Relation", "first", "(Lcom/example/tanglemark/tanglemark/datalog/Relation$Chains;I)I"⟩ : MethodName)) hown (ow hw (i := 236) rfl) (ow hw (i := 237) rfl) (ow hw (i := 3) rfl) (ow hw (i := 238) rfl) (by decide) (rm_a45 l Z a0 hw h0 ka2 ia1 ia2 ia3 _ _ _ ka4 _ ka5 ka6 _ hy0 hy1 hy2) (lenOf pd_18 rfl) (hb hby d29_5) (pc' := 8) rfl (argsL := [(.ref ka2), (.int (oH ia1 ia2 ia3))]) (rest := []) rfl (by rw [hml]; rfl) (W := 0) (oLe rfl) (by decide) (cells' := 0) rfl (slots' := 0) rfl ?_
  intro T v_ d_ q_ B
  obtain ⟨rfl, rfl⟩ := q_
  show oWin p e below Z h0 _ _ (T.setTop (mkF m 8 #[.val (.ref ka1), .val (.ref ka2), .val (.ref ka3), .val (.int (1 : Int32)), .unset] [(.int (0 : Int32))]))
  refine W_istore B (hb hby d29_8) (pc' := 10) rfl (v := (0 : Int32)) rfl (ls' := #[.val (.ref ka1), .val (.ref ka2), .val (.ref ka3), .val (.int (1 : Int32)), .val (.int (0 : Int32))]) rfl ?_
  refine W_iload B (hb hby d29_10) (pc' := 12) rfl rfl ?_
  refine W_ifN B (hb hby d29_12) (pc' := 15) rfl (by decide) ?_
  refine W_iload B (hb hby d29_15) (pc' := 17) rfl rfl ?_
  refine W_iloadN B (hb hby d29_17) (pc' := 18) rfl rfl ?_
  refine W_icmpN B (hb hby d29_18) (pc' := 21) rfl (by decide) ?_
  refine W_aloadN B (hb hby d29_21) (pc' := 22) rfl rfl rfl ?_
  refine W_iload B (hb hby d29_22) (pc' := 24) rfl rfl ?_
  refine W_aloadN B (hb hby d29_24) (pc' := 25) rfl rfl rfl ?_
  refine W_getfield B hown (host := "") (Or.inl (ow hw (i := 274) rfl)) (Via.of (ow hw (i := 275) rfl)) (hb hby d29_25) (pc' := 28) rfl (j := 5) rfl (q := 0) rfl ?_
  intro T B
  refine W_aloadN B (hb hby d29_28) (pc' := 29) rfl rfl rfl ?_
  refine W_privateS B (y := (⟨"com/example/tanglemark/tanglemark/datalog/Relation", "hasKey", "(I[I[I)Z"⟩ : MethodName)) hown (ow hw (i := 280) rfl) (ow hw (i := 281) rfl) (ow hw (i := 2) rfl) (ow hw (i := 282) rfl) (ow hw (i := 3) rfl) (ow hw (i := 283) rfl) (by decide) (a := ka1) (rm_a46 l Z a0 hw h0 ka1 ka5 ka3 _ _ _ _ _ _ _ ka7 ia1 ia2 ia3 _ ka8 ka9 ka10 ka2 _ _ _ ) (lenOf pd_24 rfl) (hb hby d29_29) (pc' := 32) rfl (argsL := [(.int (0 : Int32)), (.ref ka5), (.ref ka3)]) (rest := []) rfl (by rw [hml]; rfl) (W := 0) (oLe rfl) (j := 10) rfl (by decide) (cells' := 0) rfl (slots' := 0) rfl ?_
  intro T v_ d_ q_ B
  obtain ⟨rfl, rfl⟩ := q_
  show oWin p e below Z h0 _ _ (T.setTop (mkF m 32 #[.val (.ref ka1), .val (.ref ka2), .val (.ref ka3), .val (.int (1 : Int32)), .val (.int (0 : Int32))] [(.int (1 : Int32))]))
  refine W_ifN B (hb hby d29_32) (pc' := 35) rfl (by decide) ?_
  refine W_iload B (hb hby d29_35) (pc' := 37) rfl rfl ?_
  refine W_retI B hret (hb hby d29_37) (by decide) ?_
  exact ⟨rfl, rfl⟩
theorem ef_rm_a48 (m : MethodId) (x0 : Addr) (x1 : Addr) : entryFrame m #[(.ref x0), (.ref x1)] 2 = mkF m 0 #[.val (.ref x0), .val (.ref x1)] [] := by first | (simp [entryFrame, mkF, argsToLocals, Value.category]; done) | rfl
set_option maxRecDepth 65536 in
set_option maxHeartbeats 40000000 in
theorem rm_a48 (l : Launch) (Z : State) (a0 : Array Value) (hw : ∀ d ∈ tables_1, d.before a0 Z = true) (h0 : Heap) {lo : Nat} (ka1 : Addr) (ka2 : Addr) (e0 : Addr × oD) (e1 : Addr × oD) (e2 : Addr × oD) (ka3 : Addr) (ia1 : Int32) (ia2 : Int32) (ia3 : Int32) (ka4 : Addr) (ka5 : Addr) (ka6 : Addr) (e6 : Addr × oD) (e7 : Addr × oD) (ka7 : Addr) (e9 : Addr × oD) (ka8 : Addr) (ka9 : Addr) (ka10 : Addr) (e11 : Addr × oD) (e12 : Addr × oD) (ds : oDs) (hy0 : (oHd0.set ((oH ia1 ia2 ia3) &&& (15 : Int32)).toNatClampNeg (.int (0 : Int32))).length.toInt32 = (16 : Int32)) (hy1 : (oHd0.set ((oH ia1 ia2 ia3) &&& (15 : Int32)).toNatClampNeg (.int (0 : Int32)))[((oH ia1 ia2 ia3) &&& (15 : Int32)).toNatClampNeg]? = some (.int (0 : Int32))) (hy2 : ¬ ((oH ia1 ia2 ia3) &&& (15 : Int32)) < (0 : Int32)) :
    oMet l Z h0 lo (⟨"com/example/tanglemark/tanglemark/datalog/Relation", "row", "([I)I"⟩ : MethodName) prog_45_method_14_code 2 (some .int) [] ({ frames := 3, cells := 0, slots := 0, locals := 47 } : Room) #[(.ref ka1), (.ref ka2)] (e0 :: e1 :: e2 :: (ka3, oA .int (oHd0.set ((oH ia1 ia2 ia3) &&& (15 : Int32)).toNatClampNeg (.int (0 : Int32)))) :: (ka4, oA .int [o0, (.int (1 : Int32)), (.int (2 : Int32))]) :: (ka5, oO cn3 [(fk18, (.ref ka4)), (fk19, (.ref ka3)), (fk20, (.ref ka6))]) :: e6 :: e7 :: (ka7, oA .int [(.int ia1), (.int ia2), (.int ia3), o0, o0, o0, o0, o0, o0, o0, o0, o0, o0, o0, o0, o0, o0, o0, o0, o0, o0, o0, o0, o0, o0, o0, o0, o0, o0, o0, o0, o0, o0, o0, o0, o0, o0, o0, o0, o0, o0, o0, o0, o0, o0, o0, o0, o0]) :: e9 :: (ka1, oO cn0 [(fk0, (.ref ka8)), (fk1, (.ref ka9)), (fk2, (.int (3 : Int32))), (fk3, (.int (2147483639 : Int32))), (fk4, (.int (1073741824 : Int32))), (fk5, (.ref ka7)), (fk6, (.ref ka10)), (fk7, .null), (fk8, (.int (0 : Int32))), (fk9, (.int (1 : Int32))), (fk10, (.ref ka5))]) :: e11 :: e12 :: (ka2, oA .int [(.int ia1), (.int ia2), (.int ia3)]) :: ds) (fun (v : Option Value) (d : oDs) => (v = some (.int (0 : Int32)) ∧ (e0 :: e1 :: e2 :: (ka3, oA .int (oHd0.set ((oH ia1 ia2 ia3) &&& (15 : Int32)).toNatClampNeg (.int (0 : Int32)))) :: (ka4, oA .int [o0, (.int (1 : Int32)), (.int (2 : Int32))]) :: (ka5, oO cn3 [(fk18, (.ref ka4)), (fk19, (.ref ka3)), (fk20, (.ref ka6))]) :: e6 :: e7 :: (ka7, oA .int [(.int ia1), (.int ia2), (.int ia3), o0, o0, o0, o0, o0, o0, o0, o0, o0, o0, o0, o0, o0, o0, o0, o0, o0, o0, o0, o0, o0, o0, o0, o0, o0, o0, o0, o0, o0, o0, o0, o0, o0, o0, o0, o0, o0, o0, o0, o0, o0, o0, o0, o0, o0]) :: e9 :: (ka1, oO cn0 [(fk0, (.ref ka8)), (fk1, (.ref ka9)), (fk2, (.int (3 : Int32))), (fk3, (.int (2147483639 : Int32))), (fk4, (.int (1073741824 : Int32))), (fk5, (.ref ka7)), (fk6, (.ref ka10)), (fk7, .null), (fk8, (.int (0 : Int32))), (fk9, (.int (1 : Int32))), (fk10, (.ref ka5))]) :: e11 :: e12 :: (ka2, oA .int [(.int ia1), (.int ia2), (.int ia3)]) :: ds) = d)) := by
  refine oMet.of_body (plainFor_of_name pn_9) ?_
  intro p e s m below meth c T B hby hml hown hnm hret
  refine W_entry (ef_rm_a48 m ka1 ka2) ?_
  refine W_aloadN B (hb hby d27_0) (pc' := 1) rfl rfl rfl ?_
  refine W_privateS B (y := (⟨"com/example/tanglemark/tanglemark/datalog/Relation", "requireOpen", "()V"⟩ : MethodName)) hown (ow hw (i := 217) rfl) (ow hw (i := 218) rfl) (ow hw (i := 2) rfl) (ow hw (i := 219) rfl) (ow hw (i := 3) rfl) (ow hw (i := 220) rfl) (by decide) (a := ka1) (rm_a44 l Z a0 hw h0 ka1 _ _ _ _ _ _ _ _ _ _ ka8 ka9 ka7 ka10 ka5 _ ) (lenOf pd_0 rfl) (hb hby d27_1) (pc' := 4) rfl (argsL := []) (rest := []) rfl (by rw [hml]; rfl) (W := 0) (oLe rfl) (j := 10) rfl (by decide) (cells' := 0) rfl (slots' := 0) rfl ?_
  intro T v_ d_ q_ B
  obtain ⟨rfl, rfl⟩ := q_
  show oWin p e below Z h0 _ _ (T.setTop (mkF m 4 #[.val (.ref ka1), .val (.ref ka2)] []))
  refine W_aloadN B (hb hby d27_4) (pc' := 5) rfl rfl rfl ?_
  refine W_aloadN B (hb hby d27_5) (pc' := 6) rfl rfl rfl ?_
  refine W_getfield B hown (host := "") (Or.inl (ow hw (i := 200) rfl)) Via.refl (hb hby d27_6) (pc' := 9) rfl (j := 10) rfl (q := 10) rfl ?_
  intro T B
  refine W_aloadN B (hb hby d27_9) (pc' := 10) rfl rfl rfl ?_
  refine W_aloadN B (hb hby d27_10) (pc' := 11) rfl rfl rfl ?_
  refine W_getfield B hown (host := "") (Or.inl (ow hw (i := 198) rfl)) Via.refl (hb hby d27_11) (pc' := 14) rfl (j := 10) rfl (q := 9) rfl ?_
  intro T B
  refine W_virtual B (y := (⟨"com/example/tanglemark/tanglemark/datalog/Relation", "newest", "(Lcom/example/tanglemark/tanglemark/datalog/Relation$Chains;[II)I"⟩ : MethodName)) (z := (⟨"com/example/tanglemark/tanglemark/datalog/Relation", "newest", "(Lcom/example/tanglemark/tanglemark/datalog/Relation$Chains;[II)I"⟩ : MethodName)) hown (ow hw (i := 221) rfl) (ow hw (i := 222) rfl) (oNotFace B (ow hw (i := 224) rfl) rfl) (ow hw (i := 224) rfl) (ow hw (i := 223) rfl) (ow hw (i := 3) rfl) (ow hw (i := 225) rfl) (by decide) (a := ka1) (rm_a47 l Z a0 hw h0 ka1 ka5 ka2 _ _ _ ka3 ia1 ia2 ia3 ka4 ka6 _ _ ka7 _ ka8 ka9 ka10 _ _ _ hy0 hy1 hy2) (lenOf pd_19 rfl) (hb hby d27_14) (pc' := 17) rfl (argsL := [(.ref ka5), (.ref ka2), (.int (1 : Int32))]) (rest := []) rfl (by rw [hml]; rfl) (W := 0) (oLe rfl) (j := 10) rfl (by decide) (cells' := 0) rfl (slots' := 0) rfl ?_
  intro T v_ d_ q_ B
  obtain ⟨rfl, rfl⟩ := q_
  show oWin p e below Z h0 _ _ (T.setTop (mkF m 17 #[.val (.ref ka1), .val (.ref ka2)] [(.int (0 : Int32))]))
  refine W_retI B hret (hb hby d27_17) (by decide) ?_
  exact ⟨rfl, rfl⟩
theorem d26_8 : decode prog_45_method_13_code 8 = .ok (.iconst 1, 1) := by decide +kernel
theorem d26_9 : decode prog_45_method_13_code 9 = .ok (.goto 4, 3) := by decide +kernel
theorem ef_rm_a49 (m : MethodId) (x0 : Addr) (x1 : Addr) : entryFrame m #[(.ref x0), (.ref x1)] 2 = mkF m 0 #[.val (.ref x0), .val (.ref x1)] [] := by first | (simp [entryFrame, mkF, argsToLocals, Value.category]; done) | rfl
set_option maxRecDepth 65536 in
set_option maxHeartbeats 40000000 in
theorem rm_a49 (l : Launch) (Z : State) (a0 : Array Value) (hw : ∀ d ∈ tables_1, d.before a0 Z = true) (h0 : Heap) {lo : Nat} (ka1 : Addr) (ka2 : Addr) (e0 : Addr × oD) (e1 : Addr × oD) (e2 : Addr × oD) (ka3 : Addr) (ia1 : Int32) (ia2 : Int32) (ia3 : Int32) (ka4 : Addr) (ka5 : Addr) (ka6 : Addr) (e6 : Addr × oD) (e7 : Addr × oD) (ka7 : Addr) (e9 : Addr × oD) (ka8 : Addr) (ka9 : Addr) (ka10 : Addr) (e11 : Addr × oD) (e12 : Addr × oD) (ds : oDs) (hy0 : (oHd0.set ((oH ia1 ia2 ia3) &&& (15 : Int32)).toNatClampNeg (.int (0 : Int32))).length.toInt32 = (16 : Int32)) (hy1 : (oHd0.set ((oH ia1 ia2 ia3) &&& (15 : Int32)).toNatClampNeg (.int (0 : Int32)))[((oH ia1 ia2 ia3) &&& (15 : Int32)).toNatClampNeg]? = some (.int (0 : Int32))) (hy2 : ¬ ((oH ia1 ia2 ia3) &&& (15 : Int32)) < (0 : Int32)) :
    oMet l Z h0 lo (⟨"com/example/tanglemark/tanglemark/datalog/Relation", "contains", "([I)Z"⟩ : MethodName) prog_45_method_13_code 2 (some .boolean) [] ({ frames := 4, cells := 0, slots := 0, locals := 60 } : Room) #[(.ref ka1), (.ref ka2)] (e0 :: e1 :: e2 :: (ka3, oA .int (oHd0.set ((oH ia1 ia2 ia3) &&& (15 : Int32)).toNatClampNeg (.int (0 : Int32)))) :: (ka4, oA .int [o0, (.int (1 : Int32)), (.int (2 : Int32))]) :: (ka5, oO cn3 [(fk18, (.ref ka4)), (fk19, (.ref ka3)), (fk20, (.ref ka6))]) :: e6 :: e7 :: (ka7, oA .int [(.int ia1), (.int ia2), (.int ia3), o0, o0, o0, o0, o0, o0, o0, o0, o0, o0, o0, o0, o0, o0, o0, o0, o0, o0, o0, o0, o0, o0, o0, o0, o0, o0, o0, o0, o0, o0, o0, o0, o0, o0, o0, o0, o0, o0, o0, o0, o0, o0, o0, o0, o0]) :: e9 :: (ka1, oO cn0 [(fk0, (.ref ka8)), (fk1, (.ref ka9)), (fk2, (.int (3 : Int32))), (fk3, (.int (2147483639 : Int32))), (fk4, (.int (1073741824 : Int32))), (fk5, (.ref ka7)), (fk6, (.ref ka10)), (fk7, .null), (fk8, (.int (0 : Int32))), (fk9, (.int (1 : Int32))), (fk10, (.ref ka5))]) :: e11 :: e12 :: (ka2, oA .int [(.int ia1), (.int ia2), (.int ia3)]) :: ds) (fun (v : Option Value) (d : oDs) => (v = some (.int (1 : Int32)) ∧ (e0 :: e1 :: e2 :: (ka3, oA .int (oHd0.set ((oH ia1 ia2 ia3) &&& (15 : Int32)).toNatClampNeg (.int (0 : Int32)))) :: (ka4, oA .int [o0, (.int (1 : Int32)), (.int (2 : Int32))]) :: (ka5, oO cn3 [(fk18, (.ref ka4)), (fk19, (.ref ka3)), (fk20, (.ref ka6))]) :: e6 :: e7 :: (ka7, oA .int [(.int ia1), (.int ia2), (.int ia3), o0, o0, o0, o0, o0, o0, o0, o0, o0, o0, o0, o0, o0, o0, o0, o0, o0, o0, o0, o0, o0, o0, o0, o0, o0, o0, o0, o0, o0, o0, o0, o0, o0, o0, o0, o0, o0, o0, o0, o0, o0, o0, o0, o0, o0]) :: e9 :: (ka1, oO cn0 [(fk0, (.ref ka8)), (fk1, (.ref ka9)), (fk2, (.int (3 : Int32))), (fk3, (.int (2147483639 : Int32))), (fk4, (.int (1073741824 : Int32))), (fk5, (.ref ka7)), (fk6, (.ref ka10)), (fk7, .null), (fk8, (.int (0 : Int32))), (fk9, (.int (1 : Int32))), (fk10, (.ref ka5))]) :: e11 :: e12 :: (ka2, oA .int [(.int ia1), (.int ia2), (.int ia3)]) :: ds) = d)) := by
  refine oMet.of_body (plainFor_of_name pn_9) ?_
  intro p e s m below meth c T B hby hml hown hnm hret
  refine W_entry (ef_rm_a49 m ka1 ka2) ?_
  refine W_aloadN B (hb hby d26_0) (pc' := 1) rfl rfl rfl ?_
  refine W_aloadN B (hb hby d26_1) (pc' := 2) rfl rfl rfl ?_
  refine W_virtual B (y := (⟨"com/example/tanglemark/tanglemark/datalog/Relation", "row", "([I)I"⟩ : MethodName)) (z := (⟨"com/example/tanglemark/tanglemark/datalog/Relation", "row", "([I)I"⟩ : MethodName)) hown (ow hw (i := 212) rfl) (ow hw (i := 213) rfl) (oNotFace B (ow hw (i := 215) rfl) rfl) (ow hw (i := 215) rfl) (ow hw (i := 214) rfl) (ow hw (i := 3) rfl) (ow hw (i := 216) rfl) (by decide) (a := ka1) (rm_a48 l Z a0 hw h0 ka1 ka2 _ _ _ ka3 ia1 ia2 ia3 ka4 ka5 ka6 _ _ ka7 _ ka8 ka9 ka10 _ _ _ hy0 hy1 hy2) (lenOf pd_17 rfl) (hb hby d26_2) (pc' := 5) rfl (argsL := [(.ref ka2)]) (rest := []) rfl (by rw [hml]; rfl) (W := 0) (oLe rfl) (j := 10) rfl (by decide) (cells' := 0) rfl (slots' := 0) rfl ?_
  intro T v_ d_ q_ B
  obtain ⟨rfl, rfl⟩ := q_
  show oWin p e below Z h0 _ _ (T.setTop (mkF m 5 #[.val (.ref ka1), .val (.ref ka2)] [(.int (0 : Int32))]))
  refine W_ifN B (hb hby d26_5) (pc' := 8) rfl (by decide) ?_
  refine W_iconst B (hb hby d26_8) (pc' := 9) rfl (z := (1 : Int32)) (by decide) ?_
  refine W_goto B (hb hby d26_9) (by decide) (pc' := 13) (by decide) ?_
  refine W_retN B hret (by simp) (hb hby d26_13) (by decide) ?_
  exact ⟨rfl, rfl⟩
theorem d25_8 : decode prog_45_method_8_code 8 = .ok (.iconst 0, 1) := by decide +kernel
theorem d25_9 : decode prog_45_method_8_code 9 = .ok (.ireturn, 1) := by decide +kernel
theorem ef_rm_a50 (m : MethodId) (x0 : Addr) (x1 : Addr) : entryFrame m #[(.ref x0), (.ref x1)] 2 = mkF m 0 #[.val (.ref x0), .val (.ref x1)] [] := by first | (simp [entryFrame, mkF, argsToLocals, Value.category]; done) | rfl
set_option maxRecDepth 65536 in
set_option maxHeartbeats 40000000 in
theorem rm_a50 (l : Launch) (Z : State) (a0 : Array Value) (hw : ∀ d ∈ tables_1, d.before a0 Z = true) (h0 : Heap) {lo : Nat} (ka1 : Addr) (ka2 : Addr) (e0 : Addr × oD) (e1 : Addr × oD) (e2 : Addr × oD) (ka3 : Addr) (ia1 : Int32) (ia2 : Int32) (ia3 : Int32) (ka4 : Addr) (ka5 : Addr) (ka6 : Addr) (e6 : Addr × oD) (e7 : Addr × oD) (ka7 : Addr) (e9 : Addr × oD) (ka8 : Addr) (ka9 : Addr) (ka10 : Addr) (e11 : Addr × oD) (e12 : Addr × oD) (ds : oDs) (hy0 : (oHd0.set ((oH ia1 ia2 ia3) &&& (15 : Int32)).toNatClampNeg (.int (0 : Int32))).length.toInt32 = (16 : Int32)) (hy1 : (oHd0.set ((oH ia1 ia2 ia3) &&& (15 : Int32)).toNatClampNeg (.int (0 : Int32)))[((oH ia1 ia2 ia3) &&& (15 : Int32)).toNatClampNeg]? = some (.int (0 : Int32))) (hy2 : ¬ ((oH ia1 ia2 ia3) &&& (15 : Int32)) < (0 : Int32)) :
    oMet l Z h0 lo (⟨"com/example/tanglemark/tanglemark/datalog/Relation", "add", "([I)Z"⟩ : MethodName) prog_45_method_8_code 2 (some .boolean) [] ({ frames := 5, cells := 0, slots := 0, locals := 73 } : Room) #[(.ref ka1), (.ref ka2)] (e0 :: e1 :: e2 :: (ka3, oA .int (oHd0.set ((oH ia1 ia2 ia3) &&& (15 : Int32)).toNatClampNeg (.int (0 : Int32)))) :: (ka4, oA .int [o0, (.int (1 : Int32)), (.int (2 : Int32))]) :: (ka5, oO cn3 [(fk18, (.ref ka4)), (fk19, (.ref ka3)), (fk20, (.ref ka6))]) :: e6 :: e7 :: (ka7, oA .int [(.int ia1), (.int ia2), (.int ia3), o0, o0, o0, o0, o0, o0, o0, o0, o0, o0, o0, o0, o0, o0, o0, o0, o0, o0, o0, o0, o0, o0, o0, o0, o0, o0, o0, o0, o0, o0, o0, o0, o0, o0, o0, o0, o0, o0, o0, o0, o0, o0, o0, o0, o0]) :: e9 :: (ka1, oO cn0 [(fk0, (.ref ka8)), (fk1, (.ref ka9)), (fk2, (.int (3 : Int32))), (fk3, (.int (2147483639 : Int32))), (fk4, (.int (1073741824 : Int32))), (fk5, (.ref ka7)), (fk6, (.ref ka10)), (fk7, .null), (fk8, (.int (0 : Int32))), (fk9, (.int (1 : Int32))), (fk10, (.ref ka5))]) :: e11 :: e12 :: (ka2, oA .int [(.int ia1), (.int ia2), (.int ia3)]) :: ds) (fun (v : Option Value) (d : oDs) => (v = some (.int (0 : Int32)) ∧ (e0 :: e1 :: e2 :: (ka3, oA .int (oHd0.set ((oH ia1 ia2 ia3) &&& (15 : Int32)).toNatClampNeg (.int (0 : Int32)))) :: (ka4, oA .int [o0, (.int (1 : Int32)), (.int (2 : Int32))]) :: (ka5, oO cn3 [(fk18, (.ref ka4)), (fk19, (.ref ka3)), (fk20, (.ref ka6))]) :: e6 :: e7 :: (ka7, oA .int [(.int ia1), (.int ia2), (.int ia3), o0, o0, o0, o0, o0, o0, o0, o0, o0, o0, o0, o0, o0, o0, o0, o0, o0, o0, o0, o0, o0, o0, o0, o0, o0, o0, o0, o0, o0, o0, o0, o0, o0, o0, o0, o0, o0, o0, o0, o0, o0, o0, o0, o0, o0]) :: e9 :: (ka1, oO cn0 [(fk0, (.ref ka8)), (fk1, (.ref ka9)), (fk2, (.int (3 : Int32))), (fk3, (.int (2147483639 : Int32))), (fk4, (.int (1073741824 : Int32))), (fk5, (.ref ka7)), (fk6, (.ref ka10)), (fk7, .null), (fk8, (.int (0 : Int32))), (fk9, (.int (1 : Int32))), (fk10, (.ref ka5))]) :: e11 :: e12 :: (ka2, oA .int [(.int ia1), (.int ia2), (.int ia3)]) :: ds) = d)) := by
  refine oMet.of_body (plainFor_of_name pn_9) ?_
  intro p e s m below meth c T B hby hml hown hnm hret
  refine W_entry (ef_rm_a50 m ka1 ka2) ?_
  refine W_aloadN B (hb hby d25_0) (pc' := 1) rfl rfl rfl ?_
  refine W_aloadN B (hb hby d25_1) (pc' := 2) rfl rfl rfl ?_
  refine W_virtual B (y := (⟨"com/example/tanglemark/tanglemark/datalog/Relation", "contains", "([I)Z"⟩ : MethodName)) (z := (⟨"com/example/tanglemark/tanglemark/datalog/Relation", "contains", "([I)Z"⟩ : MethodName)) hown (ow hw (i := 207) rfl) (ow hw (i := 208) rfl) (oNotFace B (ow hw (i := 210) rfl) rfl) (ow hw (i := 210) rfl) (ow hw (i := 209) rfl) (ow hw (i := 3) rfl) (ow hw (i := 211) rfl) (by decide) (a := ka1) (rm_a49 l Z a0 hw h0 ka1 ka2 _ _ _ ka3 ia1 ia2 ia3 ka4 ka5 ka6 _ _ ka7 _ ka8 ka9 ka10 _ _ _ hy0 hy1 hy2) (lenOf pd_20 rfl) (hb hby d25_2) (pc' := 5) rfl (argsL := [(.ref ka2)]) (rest := []) rfl (by rw [hml]; rfl) (W := 0) (oLe rfl) (j := 10) rfl (by decide) (cells' := 0) rfl (slots' := 0) rfl ?_
  intro T v_ d_ q_ B
  obtain ⟨rfl, rfl⟩ := q_
  show oWin p e below Z h0 _ _ (T.setTop (mkF m 5 #[.val (.ref ka1), .val (.ref ka2)] [(.int (1 : Int32))]))
  refine W_ifN B (hb hby d25_5) (pc' := 8) rfl (by decide) ?_
  refine W_iconst B (hb hby d25_8) (pc' := 9) rfl (z := (0 : Int32)) (by decide) ?_
  refine W_retN B hret (by simp) (hb hby d25_9) (by decide) ?_
  exact ⟨rfl, rfl⟩
theorem ef_rm_a51 (m : MethodId) (x0 : Addr) : entryFrame m #[(.ref x0)] 6 = mkF m 0 #[.val (.ref x0), .unset, .unset, .unset, .unset, .unset] [] := by first | (simp [entryFrame, mkF, argsToLocals, Value.category]; done) | rfl
set_option maxRecDepth 65536 in
set_option maxHeartbeats 40000000 in
theorem rm_a51 (l : Launch) (Z : State) (a0 : Array Value) (hw : ∀ d ∈ tables_1, d.before a0 Z = true) (h0 : Heap) {lo : Nat} (ka1 : Addr) (e0 : Addr × oD) (e1 : Addr × oD) (e2 : Addr × oD) (e3 : Addr × oD) (e4 : Addr × oD) (e5 : Addr × oD) (e6 : Addr × oD) (e7 : Addr × oD) (e8 : Addr × oD) (e9 : Addr × oD) (e10 : Addr × oD) (e11 : Addr × oD) (ia1 : Int32) (ia2 : Int32) (ia3 : Int32) (ds : oDs) :
    oMet l Z h0 lo (⟨"com/example/tanglemark/tanglemark/datalog/Relation", "hash", "([I)I"⟩ : MethodName) prog_45_method_30_code 6 (some .int) [] ({ frames := 1, cells := 0, slots := 0, locals := 13 } : Room) #[(.ref ka1)] (e0 :: e1 :: e2 :: e3 :: e4 :: e5 :: e6 :: e7 :: e8 :: e9 :: e10 :: e11 :: (ka1, oA .int [(.int ia1), (.int ia2), (.int ia3)]) :: ds) (fun (v : Option Value) (d : oDs) => (v = some (.int (oH ia1 ia2 ia3)) ∧ (e0 :: e1 :: e2 :: e3 :: e4 :: e5 :: e6 :: e7 :: e8 :: e9 :: e10 :: e11 :: (ka1, oA .int [(.int ia1), (.int ia2), (.int ia3)]) :: ds) = d)) := by
  refine oMet.of_body (plainFor_of_name pn_9) ?_
  intro p e s m below meth c T B hby hml hown hnm hret
  refine W_entry (ef_rm_a51 m ka1) ?_
  refine W_iconst B (hb hby d30_0) (pc' := 1) rfl (z := (0 : Int32)) (by decide) ?_
  refine W_istoreN B (hb hby d30_1) (pc' := 2) rfl (v := (0 : Int32)) rfl (ls' := #[.val (.ref ka1), .val (.int (0 : Int32)), .unset, .unset, .unset, .unset]) rfl ?_
  refine W_aloadN B (hb hby d30_2) (pc' := 3) rfl rfl rfl ?_
  refine W_astoreN B (hb hby d30_3) (pc' := 4) rfl rfl (ls' := #[.val (.ref ka1), .val (.int (0 : Int32)), .val (.ref ka1), .unset, .unset, .unset]) rfl ?_
  refine W_aloadN B (hb hby d30_4) (pc' := 5) rfl rfl rfl ?_
  refine W_arraylength B (hb hby d30_5) (pc' := 6) rfl (j := 12) rfl (z := (3 : Int32)) rfl ?_
  refine W_istoreN B (hb hby d30_6) (pc' := 7) rfl (v := (3 : Int32)) rfl (ls' := #[.val (.ref ka1), .val (.int (0 : Int32)), .val (.ref ka1), .val (.int (3 : Int32)), .unset, .unset]) rfl ?_
  refine W_iconst B (hb hby d30_7) (pc' := 8) rfl (z := (0 : Int32)) (by decide) ?_
  refine W_istore B (hb hby d30_8) (pc' := 10) rfl (v := (0 : Int32)) rfl (ls' := #[.val (.ref ka1), .val (.int (0 : Int32)), .val (.ref ka1), .val (.int (3 : Int32)), .val (.int (0 : Int32)), .unset]) rfl ?_
  refine W_iload B (hb hby d30_10) (pc' := 12) rfl rfl ?_
  refine W_iloadN B (hb hby d30_12) (pc' := 13) rfl rfl ?_
  refine W_icmpN B (hb hby d30_13) (pc' := 16) rfl (by decide) ?_
  refine W_aloadN B (hb hby d30_16) (pc' := 17) rfl rfl rfl ?_
  refine W_iload B (hb hby d30_17) (pc' := 19) rfl rfl ?_
  refine W_iaload B (hb hby d30_19) (pc' := 20) rfl (i := 12) rfl (by decide) (v := (.int ia1)) rfl ?_
  refine W_istore B (hb hby d30_20) (pc' := 22) rfl (v := ia1) rfl (ls' := #[.val (.ref ka1), .val (.int (0 : Int32)), .val (.ref ka1), .val (.int (3 : Int32)), .val (.int (0 : Int32)), .val (.int ia1)]) rfl ?_
  refine W_iloadN B (hb hby d30_22) (pc' := 23) rfl rfl ?_
  refine W_iload B (hb hby d30_23) (pc' := 25) rfl rfl ?_
  refine W_callS B (y := (⟨"com/example/tanglemark/tanglemark/datalog/Relation", "mix", "(II)I"⟩ : MethodName)) hown (ow hw (i := 229) rfl) (ow hw (i := 230) rfl) (ow hw (i := 3) rfl) (ow hw (i := 231) rfl) (by decide) (rm_a24 l Z a0 hw h0 ia1 _ ) (lenOf pd_2 rfl) (hb hby d30_25) (pc' := 28) rfl (argsL := [(.int (0 : Int32)), (.int ia1)]) (rest := []) rfl (by rw [hml]; rfl) (W := 0) (oLe rfl) (by decide) (cells' := 0) rfl (slots' := 0) rfl ?_
  intro T v_ d_ q_ B
  obtain ⟨rfl, rfl⟩ := q_
  show oWin p e below Z h0 _ _ (T.setTop (mkF m 28 #[.val (.ref ka1), .val (.int (0 : Int32)), .val (.ref ka1), .val (.int (3 : Int32)), .val (.int (0 : Int32)), .val (.int ia1)] [(.int (oM (0 : Int32) ia1))]))
  refine W_istoreN B (hb hby d30_28) (pc' := 29) rfl (v := (oM (0 : Int32) ia1)) rfl (ls' := #[.val (.ref ka1), .val (.int (oM (0 : Int32) ia1)), .val (.ref ka1), .val (.int (3 : Int32)), .val (.int (0 : Int32)), .val (.int ia1)]) rfl ?_
  refine W_iinc B (hb hby d30_29) (pc' := 32) rfl rfl (z := (1 : Int32)) (by decide) (ls' := #[.val (.ref ka1), .val (.int (oM (0 : Int32) ia1)), .val (.ref ka1), .val (.int (3 : Int32)), .val (.int (1 : Int32)), .val (.int ia1)]) rfl ?_
  refine W_goto B (hb hby d30_32) (by decide) (pc' := 10) (by decide) ?_
  refine W_iload B (hb hby d30_10) (pc' := 12) rfl rfl ?_
  refine W_iloadN B (hb hby d30_12) (pc' := 13) rfl rfl ?_
  refine W_icmpN B (hb hby d30_13) (pc' := 16) rfl (by decide) ?_
  refine W_aloadN B (hb hby d30_16) (pc' := 17) rfl rfl rfl ?_
  refine W_iload B (hb hby d30_17) (pc' := 19) rfl rfl ?_
  refine W_iaload B (hb hby d30_19) (pc' := 20) rfl (i := 12) rfl (by decide) (v := (.int ia2)) rfl ?_
  refine W_istore B (hb hby d30_20) (pc' := 22) rfl (v := ia2) rfl (ls' := #[.val (.ref ka1), .val (.int (oM (0 : Int32) ia1)), .val (.ref ka1), .val (.int (3 : Int32)), .val (.int (1 : Int32)), .val (.int ia2)]) rfl ?_
  refine W_iloadN B (hb hby d30_22) (pc' := 23) rfl rfl ?_
  refine W_iload B (hb hby d30_23) (pc' := 25) rfl rfl ?_
  refine W_callS B (y := (⟨"com/example/tanglemark/tanglemark/datalog/Relation", "mix", "(II)I"⟩ : MethodName)) hown (ow hw (i := 229) rfl) (ow hw (i := 230) rfl) (ow hw (i := 3) rfl) (ow hw (i := 231) rfl) (by decide) (rm_a25 l Z a0 hw h0 ia1 ia2 _ ) (lenOf pd_2 rfl) (hb hby d30_25) (pc' := 28) rfl (argsL := [(.int (oM (0 : Int32) ia1)), (.int ia2)]) (rest := []) rfl (by rw [hml]; rfl) (W := 0) (oLe rfl) (by decide) (cells' := 0) rfl (slots' := 0) rfl ?_
  intro T v_ d_ q_ B
  obtain ⟨rfl, rfl⟩ := q_
  show oWin p e below Z h0 _ _ (T.setTop (mkF m 28 #[.val (.ref ka1), .val (.int (oM (0 : Int32) ia1)), .val (.ref ka1), .val (.int (3 : Int32)), .val (.int (1 : Int32)), .val (.int ia2)] [(.int (oM (oM (0 : Int32) ia1) ia2))]))
  refine W_istoreN B (hb hby d30_28) (pc' := 29) rfl (v := (oM (oM (0 : Int32) ia1) ia2)) rfl (ls' := #[.val (.ref ka1), .val (.int (oM (oM (0 : Int32) ia1) ia2)), .val (.ref ka1), .val (.int (3 : Int32)), .val (.int (1 : Int32)), .val (.int ia2)]) rfl ?_
  refine W_iinc B (hb hby d30_29) (pc' := 32) rfl rfl (z := (2 : Int32)) (by decide) (ls' := #[.val (.ref ka1), .val (.int (oM (oM (0 : Int32) ia1) ia2)), .val (.ref ka1), .val (.int (3 : Int32)), .val (.int (2 : Int32)), .val (.int ia2)]) rfl ?_
  refine W_goto B (hb hby d30_32) (by decide) (pc' := 10) (by decide) ?_
  refine W_iload B (hb hby d30_10) (pc' := 12) rfl rfl ?_
  refine W_iloadN B (hb hby d30_12) (pc' := 13) rfl rfl ?_
  refine W_icmpN B (hb hby d30_13) (pc' := 16) rfl (by decide) ?_
  refine W_aloadN B (hb hby d30_16) (pc' := 17) rfl rfl rfl ?_
  refine W_iload B (hb hby d30_17) (pc' := 19) rfl rfl ?_
  refine W_iaload B (hb hby d30_19) (pc' := 20) rfl (i := 12) rfl (by decide) (v := (.int ia3)) rfl ?_
  refine W_istore B (hb hby d30_20) (pc' := 22) rfl (v := ia3) rfl (ls' := #[.val (.ref ka1), .val (.int (oM (oM (0 : Int32) ia1) ia2)), .val (.ref ka1), .val (.int (3 : Int32)), .val (.int (2 : Int32)), .val (.int ia3)]) rfl ?_
  refine W_iloadN B (hb hby d30_22) (pc' := 23) rfl rfl ?_
  refine W_iload B (hb hby d30_23) (pc' := 25) rfl rfl ?_
  refine W_callS B (y := (⟨"com/example/tanglemark/tanglemark/datalog/Relation", "mix", "(II)I"⟩ : MethodName)) hown (ow hw (i := 229) rfl) (ow hw (i := 230) rfl) (ow hw (i := 3) rfl) (ow hw (i := 231) rfl) (by decide) (rm_a26 l Z a0 hw h0 ia1 ia2 ia3 _ ) (lenOf pd_2 rfl) (hb hby d30_25) (pc' := 28) rfl (argsL := [(.int (oM (oM (0 : Int32) ia1) ia2)), (.int ia3)]) (rest := []) rfl (by rw [hml]; rfl) (W := 0) (oLe rfl) (by decide) (cells' := 0) rfl (slots' := 0) rfl ?_
  intro T v_ d_ q_ B
  obtain ⟨rfl, rfl⟩ := q_
  show oWin p e below Z h0 _ _ (T.setTop (mkF m 28 #[.val (.ref ka1), .val (.int (oM (oM (0 : Int32) ia1) ia2)), .val (.ref ka1), .val (.int (3 : Int32)), .val (.int (2 : Int32)), .val (.int ia3)] [(.int (oM (oM (oM (0 : Int32) ia1) ia2) ia3))]))
  refine W_istoreN B (hb hby d30_28) (pc' := 29) rfl (v := (oM (oM (oM (0 : Int32) ia1) ia2) ia3)) rfl (ls' := #[.val (.ref ka1), .val (.int (oM (oM (oM (0 : Int32) ia1) ia2) ia3)), .val (.ref ka1), .val (.int (3 : Int32)), .val (.int (2 : Int32)), .val (.int ia3)]) rfl ?_
  refine W_iinc B (hb hby d30_29) (pc' := 32) rfl rfl (z := (3 : Int32)) (by decide) (ls' := #[.val (.ref ka1), .val (.int (oM (oM (oM (0 : Int32) ia1) ia2) ia3)), .val (.ref ka1), .val (.int (3 : Int32)), .val (.int (3 : Int32)), .val (.int ia3)]) rfl ?_
  refine W_goto B (hb hby d30_32) (by decide) (pc' := 10) (by decide) ?_
  refine W_iload B (hb hby d30_10) (pc' := 12) rfl rfl ?_
  refine W_iloadN B (hb hby d30_12) (pc' := 13) rfl rfl ?_
  refine W_icmpY B (hb hby d30_13) (by decide) (pc' := 35) (by decide) (by decide) ?_
  refine W_iloadN B (hb hby d30_35) (pc' := 36) rfl rfl ?_
  refine W_callS B (y := (⟨"com/example/tanglemark/tanglemark/datalog/Relation", "finish", "(I)I"⟩ : MethodName)) hown (ow hw (i := 233) rfl) (ow hw (i := 234) rfl) (ow hw (i := 3) rfl) (ow hw (i := 235) rfl) (by decide) (rm_a27 l Z a0 hw h0 ia1 ia2 ia3 _ ) (lenOf pd_1 rfl) (hb hby d30_36) (pc' := 39) rfl (argsL := [(.int (oM (oM (oM (0 : Int32) ia1) ia2) ia3))]) (rest := []) rfl (by rw [hml]; rfl) (W := 0) (oLe rfl) (by decide) (cells' := 0) rfl (slots' := 0) rfl ?_
  intro T v_ d_ q_ B
  obtain ⟨rfl, rfl⟩ := q_
  show oWin p e below Z h0 _ _ (T.setTop (mkF m 39 #[.val (.ref ka1), .val (.int (oM (oM (oM (0 : Int32) ia1) ia2) ia3)), .val (.ref ka1), .val (.int (3 : Int32)), .val (.int (3 : Int32)), .val (.int ia3)] [(.int (oF (oM (oM (oM (0 : Int32) ia1) ia2) ia3)))]))
  refine W_retI B hret (hb hby d30_39) (by decide) ?_
  exact ⟨rfl, rfl⟩
theorem ef_rm_a52 (m : MethodId) (x0 : Addr) (x2 : Addr) (x3 : Addr) : entryFrame m #[(.ref x0), (.int (0 : Int32)), (.ref x2), (.ref x3)] 6 = mkF m 0 #[.val (.ref x0), .val (.int (0 : Int32)), .val (.ref x2), .val (.ref x3), .unset, .unset] [] := by first | (simp [entryFrame, mkF, argsToLocals, Value.category]; done) | rfl
set_option maxRecDepth 65536 in
set_option maxHeartbeats 40000000 in
theorem rm_a52 (l : Launch) (Z : State) (a0 : Array Value) (hw : ∀ d ∈ tables_1, d.before a0 Z = true) (h0 : Heap) {lo : Nat} (ka1 : Addr) (ka2 : Addr) (ka3 : Addr) (e0 : Addr × oD) (e1 : Addr × oD) (e2 : Addr × oD) (e3 : Addr × oD) (e5 : Addr × oD) (e6 : Addr × oD) (e7 : Addr × oD) (ka4 : Addr) (ia1 : Int32) (ia2 : Int32) (ia3 : Int32) (e9 : Addr × oD) (ka5 : Addr) (ka6 : Addr) (ka7 : Addr) (ka8 : Addr) (e11 : Addr × oD) (ds : oDs) :
    oMet l Z h0 lo (⟨"com/example/tanglemark/tanglemark/datalog/Relation", "hasKey", "(I[I[I)Z"⟩ : MethodName) prog_45_method_17_code 6 (some .boolean) [] ({ frames := 0, cells := 0, slots := 0, locals := 0 } : Room) #[(.ref ka1), (.int (0 : Int32)), (.ref ka2), (.ref ka3)] (e0 :: e1 :: e2 :: e3 :: (ka2, oA .int [o0, (.int (1 : Int32)), (.int (2 : Int32))]) :: e5 :: e6 :: e7 :: (ka4, oA .int [(.int ia1), (.int ia2), (.int ia3), o0, o0, o0, o0, o0, o0, o0, o0, o0, o0, o0, o0, o0, o0, o0, o0, o0, o0, o0, o0, o0, o0, o0, o0, o0, o0, o0, o0, o0, o0, o0, o0, o0, o0, o0, o0, o0, o0, o0, o0, o0, o0, o0, o0, o0]) :: e9 :: (ka1, oO cn0 [(fk0, (.ref ka5)), (fk1, (.ref ka6)), (fk2, (.int (3 : Int32))), (fk3, (.int (2147483639 : Int32))), (fk4, (.int (1073741824 : Int32))), (fk5, (.ref ka4)), (fk6, (.ref ka7)), (fk7, .null), (fk8, (.int (0 : Int32))), (fk9, (.int (1 : Int32))), (fk10, (.ref ka8))]) :: e11 :: (ka3, oA .int [(.int ia1), (.int ia2), (.int ia3)]) :: ds) (fun (v : Option Value) (d : oDs) => (v = some (.int (1 : Int32)) ∧ (e0 :: e1 :: e2 :: e3 :: (ka2, oA .int [o0, (.int (1 : Int32)), (.int (2 : Int32))]) :: e5 :: e6 :: e7 :: (ka4, oA .int [(.int ia1), (.int ia2), (.int ia3), o0, o0, o0, o0, o0, o0, o0, o0, o0, o0, o0, o0, o0, o0, o0, o0, o0, o0, o0, o0, o0, o0, o0, o0, o0, o0, o0, o0, o0, o0, o0, o0, o0, o0, o0, o0, o0, o0, o0, o0, o0, o0, o0, o0, o0]) :: e9 :: (ka1, oO cn0 [(fk0, (.ref ka5)), (fk1, (.ref ka6)), (fk2, (.int (3 : Int32))), (fk3, (.int (2147483639 : Int32))), (fk4, (.int (1073741824 : Int32))), (fk5, (.ref ka4)), (fk6, (.ref ka7)), (fk7, .null), (fk8, (.int (0 : Int32))), (fk9, (.int (1 : Int32))), (fk10, (.ref ka8))]) :: e11 :: (ka3, oA .int [(.int ia1), (.int ia2), (.int ia3)]) :: ds) = d)) := by
  refine oMet.of_body (plainFor_of_name pn_9) ?_
  intro p e s m below meth c T B hby hml hown hnm hret
  refine W_entry (ef_rm_a52 m ka1 ka2 ka3) ?_
  refine W_iloadN B (hb hby d40_0) (pc' := 1) rfl rfl ?_
  refine W_aloadN B (hb hby d40_1) (pc' := 2) rfl rfl rfl ?_
  refine W_getfield B hown (host := "") (Or.inl (ow hw (i := 50) rfl)) Via.refl (hb hby d40_2) (pc' := 5) rfl (j := 10) rfl (q := 2) rfl ?_
  intro T B
  refine W_imul B (hb hby d40_5) (pc' := 6) rfl (z := (0 : Int32)) (by decide) ?_
  refine W_istore B (hb hby d40_6) (pc' := 8) rfl (v := (0 : Int32)) rfl (ls' := #[.val (.ref ka1), .val (.int (0 : Int32)), .val (.ref ka2), .val (.ref ka3), .val (.int (0 : Int32)), .unset]) rfl ?_
  refine W_iconst B (hb hby d40_8) (pc' := 9) rfl (z := (0 : Int32)) (by decide) ?_
  refine W_istore B (hb hby d40_9) (pc' := 11) rfl (v := (0 : Int32)) rfl (ls' := #[.val (.ref ka1), .val (.int (0 : Int32)), .val (.ref ka2), .val (.ref ka3), .val (.int (0 : Int32)), .val (.int (0 : Int32))]) rfl ?_
  refine W_iload B (hb hby d40_11) (pc' := 13) rfl rfl ?_
  refine W_aloadN B (hb hby d40_13) (pc' := 14) rfl rfl rfl ?_
  refine W_arraylength B (hb hby d40_14) (pc' := 15) rfl (j := 4) rfl (z := (3 : Int32)) rfl ?_
  refine W_icmpN B (hb hby d40_15) (pc' := 18) rfl (by decide) ?_
  refine W_aloadN B (hb hby d40_18) (pc' := 19) rfl rfl rfl ?_
  refine W_getfield B hown (host := "") (Or.inl (ow hw (i := 69) rfl)) Via.refl (hb hby d40_19) (pc' := 22) rfl (j := 10) rfl (q := 5) rfl ?_
  intro T B
  refine W_iload B (hb hby d40_22) (pc' := 24) rfl rfl ?_
  refine W_aloadN B (hb hby d40_24) (pc' := 25) rfl rfl rfl ?_
  refine W_iload B (hb hby d40_25) (pc' := 27) rfl rfl ?_
  refine W_iaload B (hb hby d40_27) (pc' := 28) rfl (i := 4) rfl (by decide) (v := (.int (0 : Int32))) rfl ?_
  refine W_iadd B (hb hby d40_28) (pc' := 29) rfl (z := (0 : Int32)) (by decide) ?_
  refine W_iaload B (hb hby d40_29) (pc' := 30) rfl (i := 8) rfl (by decide) (v := (.int ia1)) rfl ?_
  refine W_aloadN B (hb hby d40_30) (pc' := 31) rfl rfl rfl ?_
  refine W_iload B (hb hby d40_31) (pc' := 33) rfl rfl ?_
  refine W_iaload B (hb hby d40_33) (pc' := 34) rfl (i := 12) rfl (by decide) (v := (.int ia1)) rfl ?_
  refine W_icmpY B (hb hby d40_34) (by decide) (pc' := 39) (by decide) (teq (rfl : ia1 = ia1)).1 ?_
  refine W_iinc B (hb hby d40_39) (pc' := 42) rfl rfl (z := (1 : Int32)) (by decide) (ls' := #[.val (.ref ka1), .val (.int (0 : Int32)), .val (.ref ka2), .val (.ref ka3), .val (.int (0 : Int32)), .val (.int (1 : Int32))]) rfl ?_
  refine W_goto B (hb hby d40_42) (by decide) (pc' := 11) (by decide) ?_
  refine W_iload B (hb hby d40_11) (pc' := 13) rfl rfl ?_
  refine W_aloadN B (hb hby d40_13) (pc' := 14) rfl rfl rfl ?_
  refine W_arraylength B (hb hby d40_14) (pc' := 15) rfl (j := 4) rfl (z := (3 : Int32)) rfl ?_
  refine W_icmpN B (hb hby d40_15) (pc' := 18) rfl (by decide) ?_
  refine W_aloadN B (hb hby d40_18) (pc' := 19) rfl rfl rfl ?_
  refine W_getfield B hown (host := "") (Or.inl (ow hw (i := 69) rfl)) Via.refl (hb hby d40_19) (pc' := 22) rfl (j := 10) rfl (q := 5) rfl ?_
  intro T B
  refine W_iload B (hb hby d40_22) (pc' := 24) rfl rfl ?_
  refine W_aloadN B (hb hby d40_24) (pc' := 25) rfl rfl rfl ?_
  refine W_iload B (hb hby d40_25) (pc' := 27) rfl rfl ?_
  refine W_iaload B (hb hby d40_27) (pc' := 28) rfl (i := 4) rfl (by decide) (v := (.int (1 : Int32))) rfl ?_
  refine W_iadd B (hb hby d40_28) (pc' := 29) rfl (z := (1 : Int32)) (by decide) ?_
  refine W_iaload B (hb hby d40_29) (pc' := 30) rfl (i := 8) rfl (by decide) (v := (.int ia2)) rfl ?_
  refine W_aloadN B (hb hby d40_30) (pc' := 31) rfl rfl rfl ?_
  refine W_iload B (hb hby d40_31) (pc' := 33) rfl rfl ?_
  refine W_iaload B (hb hby d40_33) (pc' := 34) rfl (i := 12) rfl (by decide) (v := (.int ia2)) rfl ?_
  refine W_icmpY B (hb hby d40_34) (by decide) (pc' := 39) (by decide) (teq (rfl : ia2 = ia2)).1 ?_
  refine W_iinc B (hb hby d40_39) (pc' := 42) rfl rfl (z := (2 : Int32)) (by decide) (ls' := #[.val (.ref ka1), .val (.int (0 : Int32)), .val (.ref ka2), .val (.ref ka3), .val (.int (0 : Int32)), .val (.int (2 : Int32))]) rfl ?_
  refine W_goto B (hb hby d40_42) (by decide) (pc' := 11) (by decide) ?_
  refine W_iload B (hb hby d40_11) (pc' := 13) rfl rfl ?_
  refine W_aloadN B (hb hby d40_13) (pc' := 14) rfl rfl rfl ?_
  refine W_arraylength B (hb hby d40_14) (pc' := 15) rfl (j := 4) rfl (z := (3 : Int32)) rfl ?_
  refine W_icmpN B (hb hby d40_15) (pc' := 18) rfl (by decide) ?_
  refine W_aloadN B (hb hby d40_18) (pc' := 19) rfl rfl rfl ?_
  refine W_getfield B hown (host := "") (Or.inl (ow hw (i := 69) rfl)) Via.refl (hb hby d40_19) (pc' := 22) rfl (j := 10) rfl (q := 5) rfl ?_
  intro T B
  refine W_iload B (hb hby d40_22) (pc' := 24) rfl rfl ?_
  refine W_aloadN B (hb hby d40_24) (pc' := 25) rfl rfl rfl ?_
  refine W_iload B (hb hby d40_25) (pc' := 27) rfl rfl ?_
  refine W_iaload B (hb hby d40_27) (pc' := 28) rfl (i := 4) rfl (by decide) (v := (.int (2 : Int32))) rfl ?_
  refine W_iadd B (hb hby d40_28) (pc' := 29) rfl (z := (2 : Int32)) (by decide) ?_
  refine W_iaload B (hb hby d40_29) (pc' := 30) rfl (i := 8) rfl (by decide) (v := (.int ia3)) rfl ?_
  refine W_aloadN B (hb hby d40_30) (pc' := 31) rfl rfl rfl ?_
  refine W_iload B (hb hby d40_31) (pc' := 33) rfl rfl ?_
  refine W_iaload B (hb hby d40_33) (pc' := 34) rfl (i := 12) rfl (by decide) (v := (.int ia3)) rfl ?_
  refine W_icmpY B (hb hby d40_34) (by decide) (pc' := 39) (by decide) (teq (rfl : ia3 = ia3)).1 ?_
  refine W_iinc B (hb hby d40_39) (pc' := 42) rfl rfl (z := (3 : Int32)) (by decide) (ls' := #[.val (.ref ka1), .val (.int (0 : Int32)), .val (.ref ka2), .val (.ref ka3), .val (.int (0 : Int32)), .val (.int (3 : Int32))]) rfl ?_
  refine W_goto B (hb hby d40_42) (by decide) (pc' := 11) (by decide) ?_
  refine W_iload B (hb hby d40_11) (pc' := 13) rfl rfl ?_
  refine W_aloadN B (hb hby d40_13) (pc' := 14) rfl rfl rfl ?_
  refine W_arraylength B (hb hby d40_14) (pc' := 15) rfl (j := 4) rfl (z := (3 : Int32)) rfl ?_
  refine W_icmpY B (hb hby d40_15) (by decide) (pc' := 45) (by decide) (by decide) ?_
  refine W_iconst B (hb hby d40_45) (pc' := 46) rfl (z := (1 : Int32)) (by decide) ?_
  refine W_retN B hret (by simp) (hb hby d40_46) (by decide) ?_
  exact ⟨rfl, rfl⟩
theorem ef_rm_a53 (m : MethodId) (x0 : Addr) (x1 : Addr) (x2 : Addr) : entryFrame m #[(.ref x0), (.ref x1), (.ref x2), (.int (1 : Int32))] 5 = mkF m 0 #[.val (.ref x0), .val (.ref x1), .val (.ref x2), .val (.int (1 : Int32)), .unset] [] := by first | (simp [entryFrame, mkF, argsToLocals, Value.category]; done) | rfl
set_option maxRecDepth 65536 in
set_option maxHeartbeats 40000000 in
theorem rm_a53 (l : Launch) (Z : State) (a0 : Array Value) (hw : ∀ d ∈ tables_1, d.before a0 Z = true) (h0 : Heap) {lo : Nat} (ka1 : Addr) (ka2 : Addr) (ka3 : Addr) (e0 : Addr × oD) (e1 : Addr × oD) (e2 : Addr × oD) (ka4 : Addr) (ia1 : Int32) (ia2 : Int32) (ia3 : Int32) (ka5 : Addr) (ka6 : Addr) (e6 : Addr × oD) (e7 : Addr × oD) (ka7 : Addr) (e9 : Addr × oD) (ka8 : Addr) (ka9 : Addr) (ka10 : Addr) (e11 : Addr × oD) (ds : oDs) (hy0 : (oHd0.set ((oH ia1 ia2 ia3) &&& (15 : Int32)).toNatClampNeg (.int (0 : Int32))).length.toInt32 = (16 : Int32)) (hy1 : (oHd0.set ((oH ia1 ia2 ia3) &&& (15 : Int32)).toNatClampNeg (.int (0 : Int32)))[((oH ia1 ia2 ia3) &&& (15 : Int32)).toNatClampNeg]? = some (.int (0 : Int32))) (hy2 : ¬ ((oH ia1 ia2 ia3) &&& (15 : Int32)) < (0 : Int32)) :
    oMet l Z h0 lo (⟨"com/example/tanglemark/tanglemark/datalog/Relation", "newest", "(Lcom/example/tanglemark/tanglemark/datalog/Relation$Chains;[II)I"⟩ : MethodName) prog_45_method_15_code 5 (some .int) [] ({ frames := 2, cells := 0, slots := 0, locals := 31 } : Room) #[(.ref ka1), (.ref ka2), (.ref ka3), (.int (1 : Int32))] (e0 :: e1 :: e2 :: (ka4, oA .int (oHd0.set ((oH ia1 ia2 ia3) &&& (15 : Int32)).toNatClampNeg (.int (0 : Int32)))) :: (ka5, oA .int [o0, (.int (1 : Int32)), (.int (2 : Int32))]) :: (ka2, oO cn3 [(fk18, (.ref ka5)), (fk19, (.ref ka4)), (fk20, (.ref ka6))]) :: e6 :: e7 :: (ka7, oA .int [(.int ia1), (.int ia2), (.int ia3), o0, o0, o0, o0, o0, o0, o0, o0, o0, o0, o0, o0, o0, o0, o0, o0, o0, o0, o0, o0, o0, o0, o0, o0, o0, o0, o0, o0, o0, o0, o0, o0, o0, o0, o0, o0, o0, o0, o0, o0, o0, o0, o0, o0, o0]) :: e9 :: (ka1, oO cn0 [(fk0, (.ref ka8)), (fk1, (.ref ka9)), (fk2, (.int (3 : Int32))), (fk3, (.int (2147483639 : Int32))), (fk4, (.int (1073741824 : Int32))), (fk5, (.ref ka7)), (fk6, (.ref ka10)), (fk7, .null), (fk8, (.int (0 : Int32))), (fk9, (.int (1 : Int32))), (fk10, (.ref ka2))]) :: e11 :: (ka3, oA .int [(.int ia1), (.int ia2), (.int ia3)]) :: ds) (fun (v : Option Value) (d : oDs) => (v = some (.int (0 : Int32)) ∧ (e0 :: e1 :: e2 :: (ka4, oA .int (oHd0.set ((oH ia1 ia2 ia3) &&& (15 : Int32)).toNatClampNeg (.int (0 : Int32)))) :: (ka5, oA .int [o0, (.int (1 : Int32)), (.int (2 : Int32))]) :: (ka2, oO cn3 [(fk18, (.ref ka5)), (fk19, (.ref ka4)), (fk20, (.ref ka6))]) :: e6 :: e7 :: (ka7, oA .int [(.int ia1), (.int ia2), (.int ia3), o0, o0, o0, o0, o0, o0, o0, o0, o0, o0, o0, o0, o0, o0, o0, o0, o0, o0, o0, o0, o0, o0, o0, o0, o0, o0, o0, o0, o0, o0, o0, o0, o0, o0, o0, o0, o0, o0, o0, o0, o0, o0, o0, o0, o0]) :: e9 :: (ka1, oO cn0 [(fk0, (.ref ka8)), (fk1, (.ref ka9)), (fk2, (.int (3 : Int32))), (fk3, (.int (2147483639 : Int32))), (fk4, (.int (1073741824 : Int32))), (fk5, (.ref ka7)), (fk6, (.ref ka10)), (fk7, .null), (fk8, (.int (0 : Int32))), (fk9, (.int (1 : Int32))), (fk10, (.ref ka2))]) :: e11 :: (ka3, oA .int [(.int ia1), (.int ia2), (.int ia3)]) :: ds) = d)) := by
  refine oMet.of_body (plainFor_of_name pn_9) ?_
  intro p e s m below meth c T B hby hml hown hnm hret
  refine W_entry (ef_rm_a53 m ka1 ka2 ka3) ?_
  refine W_aloadN B (hb hby d29_0) (pc' := 1) rfl rfl rfl ?_
  refine W_aloadN B (hb hby d29_1) (pc' := 2) rfl rfl rfl ?_
  refine W_callS B (y := (⟨"com/example/tanglemark/tanglemark/datalog/Relation", "hash", "([I)I"⟩ : MethodName)) hown (ow hw (i := 226) rfl) (ow hw (i := 227) rfl) (ow hw (i := 3) rfl) (ow hw (i := 228) rfl) (by decide) (rm_a51 l Z a0 hw h0 ka3 _ _ _ _ _ _ _ _ _ _ _ _ ia1 ia2 ia3 _ ) (lenOf pd_17 rfl) (hb hby d29_2) (pc' := 5) rfl (argsL := [(.ref ka3)]) (rest := [(.ref ka2)]) rfl (by rw [hml]; rfl) (W := 1) (oLe rfl) (by decide) (cells' := 0) rfl (slots' := 0) rfl ?_
  intro T v_ d_ q_ B
  obtain ⟨rfl, rfl⟩ := q_
  show oWin p e below Z h0 _ _ (T.setTop (mkF m 5 #[.val (.ref ka1), .val (.ref ka2), .val (.ref ka3), .val (.int (1 : Int32)), .unset] [(.int (oH ia1 ia2 ia3)), (.ref ka2)]))
  refine W_callS B (y := (⟨"com/example/tanglemark/tanglemark/datalog/Relation", "first", "(Lcom/example/tanglemark/tanglemark/datalog/Relation$Chains;I)I"⟩ : MethodName)) hown (ow hw (i := 236) rfl) (ow hw (i := 237) rfl) (ow hw (i := 3) rfl) (ow hw (i := 238) rfl) (by decide) (rm_a45 l Z a0 hw h0 ka2 ia1 ia2 ia3 _ _ _ ka4 _ ka5 ka6 _ hy0 hy1 hy2) (lenOf pd_18 rfl) (hb hby d29_5) (pc' := 8) rfl (argsL := [(.ref ka2), (.int (oH ia1 ia2 ia3))]) (rest := []) rfl (by rw [hml]; rfl) (W := 0) (oLe rfl) (by decide) (cells' := 0) rfl (slots' := 0) rfl ?_
  intro T v_ d_ q_ B
  obtain ⟨rfl, rfl⟩ := q_
  show oWin p e below Z h0 _ _ (T.setTop (mkF m 8 #[.val (.ref ka1), .val (.ref ka2), .val (.ref ka3), .val (.int (1 : Int32)), .unset] [(.int (0 : Int32))]))
  refine W_istore B (hb hby d29_8) (pc' := 10) rfl (v := (0 : Int32)) rfl (ls' := #[.val (.ref ka1), .val (.ref ka2), .val (.ref ka3), .val (.int (1 : Int32)), .val (.int (0 : Int32))]) rfl ?_
  refine W_iload B (hb hby d29_10) (pc' := 12) rfl rfl ?_
  refine W_ifN B (hb hby d29_12) (pc' := 15) rfl (by decide) ?_
  refine W_iload B (hb hby d29_15) (pc' := 17) rfl rfl ?_
  refine W_iloadN B (hb hby d29_17) (pc' := 18) rfl rfl ?_
  refine W_icmpN B (hb hby d29_18) (pc' := 21) rfl (by decide) ?_
  refine W_aloadN B (hb hby d29_21) (pc' := 22) rfl rfl rfl ?_
  refine W_iload B (hb hby d29_22) (pc' := 24) rfl rfl ?_
  refine W_aloadN B (hb hby d29_24) (pc' := 25) rfl rfl rfl ?_
  refine W_getfield B hown (host := "") (Or.inl (ow hw (i := 274) rfl)) (Via.of (ow hw (i := 275) rfl)) (hb hby d29_25) (pc' := 28) rfl (j := 5) rfl (q := 0) rfl ?_
  intro T B
  refine W_aloadN B (hb hby d29_28) (pc' := 29) rfl rfl rfl ?_
  refine W_privateS B (y := (⟨"com/example/tanglemark/tanglemark/datalog/Relation", "hasKey", "(I[I[I)Z"⟩ : MethodName)) hown (ow hw (i := 280) rfl) (ow hw (i := 281) rfl) (ow hw (i := 2) rfl) (ow hw (i := 282) rfl) (ow hw (i := 3) rfl) (ow hw (i := 283) rfl) (by decide) (a := ka1) (rm_a52 l Z a0 hw h0 ka1 ka5 ka3 _ _ _ _ _ _ _ ka7 ia1 ia2 ia3 _ ka8 ka9 ka10 ka2 _ _ ) (lenOf pd_24 rfl) (hb hby d29_29) (pc' := 32) rfl (argsL := [(.int (0 : Int32)), (.ref ka5), (.ref ka3)]) (rest := []) rfl (by rw [hml]; rfl) (W := 0) (oLe rfl) (j := 10) rfl (by decide) (cells' := 0) rfl (slots' := 0) rfl ?_
  intro T v_ d_ q_ B
  obtain ⟨rfl, rfl⟩ := q_
  show oWin p e below Z h0 _ _ (T.setTop (mkF m 32 #[.val (.ref ka1), .val (.ref ka2), .val (.ref ka3), .val (.int (1 : Int32)), .val (.int (0 : Int32))] [(.int (1 : Int32))]))
  refine W_ifN B (hb hby d29_32) (pc' := 35) rfl (by decide) ?_
  refine W_iload B (hb hby d29_35) (pc' := 37) rfl rfl ?_
  refine W_retI B hret (hb hby d29_37) (by decide) ?_
  exact ⟨rfl, rfl⟩
theorem ef_rm_a54 (m : MethodId) (x0 : Addr) (x1 : Addr) : entryFrame m #[(.ref x0), (.ref x1)] 2 = mkF m 0 #[.val (.ref x0), .val (.ref x1)] [] := by first | (simp [entryFrame, mkF, argsToLocals, Value.category]; done) | rfl
set_option maxRecDepth 65536 in
set_option maxHeartbeats 40000000 in
theorem rm_a54 (l : Launch) (Z : State) (a0 : Array Value) (hw : ∀ d ∈ tables_1, d.before a0 Z = true) (h0 : Heap) {lo : Nat} (ka1 : Addr) (ka2 : Addr) (e0 : Addr × oD) (e1 : Addr × oD) (e2 : Addr × oD) (ka3 : Addr) (ia1 : Int32) (ia2 : Int32) (ia3 : Int32) (ka4 : Addr) (ka5 : Addr) (ka6 : Addr) (e6 : Addr × oD) (e7 : Addr × oD) (ka7 : Addr) (e9 : Addr × oD) (ka8 : Addr) (ka9 : Addr) (ka10 : Addr) (e11 : Addr × oD) (ds : oDs) (hy0 : (oHd0.set ((oH ia1 ia2 ia3) &&& (15 : Int32)).toNatClampNeg (.int (0 : Int32))).length.toInt32 = (16 : Int32)) (hy1 : (oHd0.set ((oH ia1 ia2 ia3) &&& (15 : Int32)).toNatClampNeg (.int (0 : Int32)))[((oH ia1 ia2 ia3) &&& (15 : Int32)).toNatClampNeg]? = some (.int (0 : Int32))) (hy2 : ¬ ((oH ia1 ia2 ia3) &&& (15 : Int32)) < (0 : Int32)) :
    oMet l Z h0 lo (⟨"com/example/tanglemark/tanglemark/datalog/Relation", "row", "([I)I"⟩ : MethodName) prog_45_method_14_code 2 (some .int) [] ({ frames := 3, cells := 0, slots := 0, locals := 47 } : Room) #[(.ref ka1), (.ref ka2)] (e0 :: e1 :: e2 :: (ka3, oA .int (oHd0.set ((oH ia1 ia2 ia3) &&& (15 : Int32)).toNatClampNeg (.int (0 : Int32)))) :: (ka4, oA .int [o0, (.int (1 : Int32)), (.int (2 : Int32))]) :: (ka5, oO cn3 [(fk18, (.ref ka4)), (fk19, (.ref ka3)), (fk20, (.ref ka6))]) :: e6 :: e7 :: (ka7, oA .int [(.int ia1), (.int ia2), (.int ia3), o0, o0, o0, o0, o0, o0, o0, o0, o0, o0, o0, o0, o0, o0, o0, o0, o0, o0, o0, o0, o0, o0, o0, o0, o0, o0, o0, o0, o0, o0, o0, o0, o0, o0, o0, o0, o0, o0, o0, o0, o0, o0, o0, o0, o0]) :: e9 :: (ka1, oO cn0 [(fk0, (.ref ka8)), (fk1, (.ref ka9)), (fk2, (.int (3 : Int32))), (fk3, (.int (2147483639 : Int32))), (fk4, (.int (1073741824 : Int32))), (fk5, (.ref ka7)), (fk6, (.ref ka10)), (fk7, .null), (fk8, (.int (0 : Int32))), (fk9, (.int (1 : Int32))), (fk10, (.ref ka5))]) :: e11 :: (ka2, oA .int [(.int ia1), (.int ia2), (.int ia3)]) :: ds) (fun (v : Option Value) (d : oDs) => (v = some (.int (0 : Int32)) ∧ (e0 :: e1 :: e2 :: (ka3, oA .int (oHd0.set ((oH ia1 ia2 ia3) &&& (15 : Int32)).toNatClampNeg (.int (0 : Int32)))) :: (ka4, oA .int [o0, (.int (1 : Int32)), (.int (2 : Int32))]) :: (ka5, oO cn3 [(fk18, (.ref ka4)), (fk19, (.ref ka3)), (fk20, (.ref ka6))]) :: e6 :: e7 :: (ka7, oA .int [(.int ia1), (.int ia2), (.int ia3), o0, o0, o0, o0, o0, o0, o0, o0, o0, o0, o0, o0, o0, o0, o0, o0, o0, o0, o0, o0, o0, o0, o0, o0, o0, o0, o0, o0, o0, o0, o0, o0, o0, o0, o0, o0, o0, o0, o0, o0, o0, o0, o0, o0, o0]) :: e9 :: (ka1, oO cn0 [(fk0, (.ref ka8)), (fk1, (.ref ka9)), (fk2, (.int (3 : Int32))), (fk3, (.int (2147483639 : Int32))), (fk4, (.int (1073741824 : Int32))), (fk5, (.ref ka7)), (fk6, (.ref ka10)), (fk7, .null), (fk8, (.int (0 : Int32))), (fk9, (.int (1 : Int32))), (fk10, (.ref ka5))]) :: e11 :: (ka2, oA .int [(.int ia1), (.int ia2), (.int ia3)]) :: ds) = d)) := by
  refine oMet.of_body (plainFor_of_name pn_9) ?_
  intro p e s m below meth c T B hby hml hown hnm hret
  refine W_entry (ef_rm_a54 m ka1 ka2) ?_
  refine W_aloadN B (hb hby d27_0) (pc' := 1) rfl rfl rfl ?_
  refine W_privateS B (y := (⟨"com/example/tanglemark/tanglemark/datalog/Relation", "requireOpen", "()V"⟩ : MethodName)) hown (ow hw (i := 217) rfl) (ow hw (i := 218) rfl) (ow hw (i := 2) rfl) (ow hw (i := 219) rfl) (ow hw (i := 3) rfl) (ow hw (i := 220) rfl) (by decide) (a := ka1) (rm_a44 l Z a0 hw h0 ka1 _ _ _ _ _ _ _ _ _ _ ka8 ka9 ka7 ka10 ka5 _ ) (lenOf pd_0 rfl) (hb hby d27_1) (pc' := 4) rfl (argsL := []) (rest := []) rfl (by rw [hml]; rfl) (W := 0) (oLe rfl) (j := 10) rfl (by decide) (cells' := 0) rfl (slots' := 0) rfl ?_
  intro T v_ d_ q_ B
  obtain ⟨rfl, rfl⟩ := q_
  show oWin p e below Z h0 _ _ (T.setTop (mkF m 4 #[.val (.ref ka1), .val (.ref ka2)] []))
  refine W_aloadN B (hb hby d27_4) (pc' := 5) rfl rfl rfl ?_
  refine W_aloadN B (hb hby d27_5) (pc' := 6) rfl rfl rfl ?_
  refine W_getfield B hown (host := "") (Or.inl (ow hw (i := 200) rfl)) Via.refl (hb hby d27_6) (pc' := 9) rfl (j := 10) rfl (q := 10) rfl ?_
  intro T B
  refine W_aloadN B (hb hby d27_9) (pc' := 10) rfl rfl rfl ?_
  refine W_aloadN B (hb hby d27_10) (pc' := 11) rfl rfl rfl ?_
  refine W_getfield B hown (host := "") (Or.inl (ow hw (i := 198) rfl)) Via.refl (hb hby d27_11) (pc' := 14) rfl (j := 10) rfl (q := 9) rfl ?_
  intro T B
  refine W_virtual B (y := (⟨"com/example/tanglemark/tanglemark/datalog/Relation", "newest", "(Lcom/example/tanglemark/tanglemark/datalog/Relation$Chains;[II)I"⟩ : MethodName)) (z := (⟨"com/example/tanglemark/tanglemark/datalog/Relation", "newest", "(Lcom/example/tanglemark/tanglemark/datalog/Relation$Chains;[II)I"⟩ : MethodName)) hown (ow hw (i := 221) rfl) (ow hw (i := 222) rfl) (oNotFace B (ow hw (i := 224) rfl) rfl) (ow hw (i := 224) rfl) (ow hw (i := 223) rfl) (ow hw (i := 3) rfl) (ow hw (i := 225) rfl) (by decide) (a := ka1) (rm_a53 l Z a0 hw h0 ka1 ka5 ka2 _ _ _ ka3 ia1 ia2 ia3 ka4 ka6 _ _ ka7 _ ka8 ka9 ka10 _ _ hy0 hy1 hy2) (lenOf pd_19 rfl) (hb hby d27_14) (pc' := 17) rfl (argsL := [(.ref ka5), (.ref ka2), (.int (1 : Int32))]) (rest := []) rfl (by rw [hml]; rfl) (W := 0) (oLe rfl) (j := 10) rfl (by decide) (cells' := 0) rfl (slots' := 0) rfl ?_
  intro T v_ d_ q_ B
  obtain ⟨rfl, rfl⟩ := q_
  show oWin p e below Z h0 _ _ (T.setTop (mkF m 17 #[.val (.ref ka1), .val (.ref ka2)] [(.int (0 : Int32))]))
  refine W_retI B hret (hb hby d27_17) (by decide) ?_
  exact ⟨rfl, rfl⟩
theorem ef_rm_a55 (m : MethodId) (x0 : Addr) (x1 : Addr) : entryFrame m #[(.ref x0), (.ref x1)] 2 = mkF m 0 #[.val (.ref x0), .val (.ref x1)] [] := by first | (simp [entryFrame, mkF, argsToLocals, Value.category]; done) | rfl
set_option maxRecDepth 65536 in
set_option maxHeartbeats 40000000 in
theorem rm_a55 (l : Launch) (Z : State) (a0 : Array Value) (hw : ∀ d ∈ tables_1, d.before a0 Z = true) (h0 : Heap) {lo : Nat} (ka1 : Addr) (ka2 : Addr) (e0 : Addr × oD) (e1 : Addr × oD) (e2 : Addr × oD) (ka3 : Addr) (ia1 : Int32) (ia2 : Int32) (ia3 : Int32) (ka4 : Addr) (ka5 : Addr) (ka6 : Addr) (e6 : Addr × oD) (e7 : Addr × oD) (ka7 : Addr) (e9 : Addr × oD) (ka8 : Addr) (ka9 : Addr) (ka10 : Addr) (e11 : Addr × oD) (ds : oDs) (hy0 : (oHd0.set ((oH ia1 ia2 ia3) &&& (15 : Int32)).toNatClampNeg (.int (0 : Int32))).length.toInt32 = (16 : Int32)) (hy1 : (oHd0.set ((oH ia1 ia2 ia3) &&& (15 : Int32)).toNatClampNeg (.int (0 : Int32)))[((oH ia1 ia2 ia3) &&& (15 : Int32)).toNatClampNeg]? = some (.int (0 : Int32))) (hy2 : ¬ ((oH ia1 ia2 ia3) &&& (15 : Int32)) < (0 : Int32)) :
    oMet l Z h0 lo (⟨"com/example/tanglemark/tanglemark/datalog/Relation", "contains", "([I)Z"⟩ : MethodName) prog_45_method_13_code 2 (some .boolean) [] ({ frames := 4, cells := 0, slots := 0, locals := 60 } : Room) #[(.ref ka1), (.ref ka2)] (e0 :: e1 :: e2 :: (ka3, oA .int (oHd0.set ((oH ia1 ia2 ia3) &&& (15 : Int32)).toNatClampNeg (.int (0 : Int32)))) :: (ka4, oA .int [o0, (.int (1 : Int32)), (.int (2 : Int32))]) :: (ka5, oO cn3 [(fk18, (.ref ka4)), (fk19, (.ref ka3)), (fk20, (.ref ka6))]) :: e6 :: e7 :: (ka7, oA .int [(.int ia1), (.int ia2), (.int ia3), o0, o0, o0, o0, o0, o0, o0, o0, o0, o0, o0, o0, o0, o0, o0, o0, o0, o0, o0, o0, o0, o0, o0, o0, o0, o0, o0, o0, o0, o0, o0, o0, o0, o0, o0, o0, o0, o0, o0, o0, o0, o0, o0, o0, o0]) :: e9 :: (ka1, oO cn0 [(fk0, (.ref ka8)), (fk1, (.ref ka9)), (fk2, (.int (3 : Int32))), (fk3, (.int (2147483639 : Int32))), (fk4, (.int (1073741824 : Int32))), (fk5, (.ref ka7)), (fk6, (.ref ka10)), (fk7, .null), (fk8, (.int (0 : Int32))), (fk9, (.int (1 : Int32))), (fk10, (.ref ka5))]) :: e11 :: (ka2, oA .int [(.int ia1), (.int ia2), (.int ia3)]) :: ds) (fun (v : Option Value) (d : oDs) => (v = some (.int (1 : Int32)) ∧ (e0 :: e1 :: e2 :: (ka3, oA .int (oHd0.set ((oH ia1 ia2 ia3) &&& (15 : Int32)).toNatClampNeg (.int (0 : Int32)))) :: (ka4, oA .int [o0, (.int (1 : Int32)), (.int (2 : Int32))]) :: (ka5, oO cn3 [(fk18, (.ref ka4)), (fk19, (.ref ka3)), (fk20, (.ref ka6))]) :: e6 :: e7 :: (ka7, oA .int [(.int ia1), (.int ia2), (.int ia3), o0, o0, o0, o0, o0, o0, o0, o0, o0, o0, o0, o0, o0, o0, o0, o0, o0, o0, o0, o0, o0, o0, o0, o0, o0, o0, o0, o0, o0, o0, o0, o0, o0, o0, o0, o0, o0, o0, o0, o0, o0, o0, o0, o0, o0]) :: e9 :: (ka1, oO cn0 [(fk0, (.ref ka8)), (fk1, (.ref ka9)), (fk2, (.int (3 : Int32))), (fk3, (.int (2147483639 : Int32))), (fk4, (.int (1073741824 : Int32))), (fk5, (.ref ka7)), (fk6, (.ref ka10)), (fk7, .null), (fk8, (.int (0 : Int32))), (fk9, (.int (1 : Int32))), (fk10, (.ref ka5))]) :: e11 :: (ka2, oA .int [(.int ia1), (.int ia2), (.int ia3)]) :: ds) = d)) := by
  refine oMet.of_body (plainFor_of_name pn_9) ?_
  intro p e s m below meth c T B hby hml hown hnm hret
  refine W_entry (ef_rm_a55 m ka1 ka2) ?_
  refine W_aloadN B (hb hby d26_0) (pc' := 1) rfl rfl rfl ?_
  refine W_aloadN B (hb hby d26_1) (pc' := 2) rfl rfl rfl ?_
  refine W_virtual B (y := (⟨"com/example/tanglemark/tanglemark/datalog/Relation", "row", "([I)I"⟩ : MethodName)) (z := (⟨"com/example/tanglemark/tanglemark/datalog/Relation", "row", "([I)I"⟩ : MethodName)) hown (ow hw (i := 212) rfl) (ow hw (i := 213) rfl) (oNotFace B (ow hw (i := 215) rfl) rfl) (ow hw (i := 215) rfl) (ow hw (i := 214) rfl) (ow hw (i := 3) rfl) (ow hw (i := 216) rfl) (by decide) (a := ka1) (rm_a54 l Z a0 hw h0 ka1 ka2 _ _ _ ka3 ia1 ia2 ia3 ka4 ka5 ka6 _ _ ka7 _ ka8 ka9 ka10 _ _ hy0 hy1 hy2) (lenOf pd_17 rfl) (hb hby d26_2) (pc' := 5) rfl (argsL := [(.ref ka2)]) (rest := []) rfl (by rw [hml]; rfl) (W := 0) (oLe rfl) (j := 10) rfl (by decide) (cells' := 0) rfl (slots' := 0) rfl ?_
  intro T v_ d_ q_ B
  obtain ⟨rfl, rfl⟩ := q_
  show oWin p e below Z h0 _ _ (T.setTop (mkF m 5 #[.val (.ref ka1), .val (.ref ka2)] [(.int (0 : Int32))]))
  refine W_ifN B (hb hby d26_5) (pc' := 8) rfl (by decide) ?_
  refine W_iconst B (hb hby d26_8) (pc' := 9) rfl (z := (1 : Int32)) (by decide) ?_
  refine W_goto B (hb hby d26_9) (by decide) (pc' := 13) (by decide) ?_
  refine W_retN B hret (by simp) (hb hby d26_13) (by decide) ?_
  exact ⟨rfl, rfl⟩
theorem ef_rm_a56 (m : MethodId) (x0 : Addr) (x1 : Addr) : entryFrame m #[(.ref x0), (.ref x1)] 2 = mkF m 0 #[.val (.ref x0), .val (.ref x1)] [] := by first | (simp [entryFrame, mkF, argsToLocals, Value.category]; done) | rfl
set_option maxRecDepth 65536 in
set_option maxHeartbeats 40000000 in
theorem rm_a56 (l : Launch) (Z : State) (a0 : Array Value) (hw : ∀ d ∈ tables_1, d.before a0 Z = true) (h0 : Heap) {lo : Nat} (ka1 : Addr) (ka2 : Addr) (e0 : Addr × oD) (e1 : Addr × oD) (e2 : Addr × oD) (ka3 : Addr) (ia1 : Int32) (ia2 : Int32) (ia3 : Int32) (ka4 : Addr) (ka5 : Addr) (ka6 : Addr) (e6 : Addr × oD) (e7 : Addr × oD) (ka7 : Addr) (e9 : Addr × oD) (ka8 : Addr) (ka9 : Addr) (ka10 : Addr) (e11 : Addr × oD) (ds : oDs) (hy0 : (oHd0.set ((oH ia1 ia2 ia3) &&& (15 : Int32)).toNatClampNeg (.int (0 : Int32))).length.toInt32 = (16 : Int32)) (hy1 : (oHd0.set ((oH ia1 ia2 ia3) &&& (15 : Int32)).toNatClampNeg (.int (0 : Int32)))[((oH ia1 ia2 ia3) &&& (15 : Int32)).toNatClampNeg]? = some (.int (0 : Int32))) (hy2 : ¬ ((oH ia1 ia2 ia3) &&& (15 : Int32)) < (0 : Int32)) :
    oMet l Z h0 lo (⟨"com/example/tanglemark/tanglemark/datalog/Relation", "add", "([I)Z"⟩ : MethodName) prog_45_method_8_code 2 (some .boolean) [] ({ frames := 5, cells := 0, slots := 0, locals := 73 } : Room) #[(.ref ka1), (.ref ka2)] (e0 :: e1 :: e2 :: (ka3, oA .int (oHd0.set ((oH ia1 ia2 ia3) &&& (15 : Int32)).toNatClampNeg (.int (0 : Int32)))) :: (ka4, oA .int [o0, (.int (1 : Int32)), (.int (2 : Int32))]) :: (ka5, oO cn3 [(fk18, (.ref ka4)), (fk19, (.ref ka3)), (fk20, (.ref ka6))]) :: e6 :: e7 :: (ka7, oA .int [(.int ia1), (.int ia2), (.int ia3), o0, o0, o0, o0, o0, o0, o0, o0, o0, o0, o0, o0, o0, o0, o0, o0, o0, o0, o0, o0, o0, o0, o0, o0, o0, o0, o0, o0, o0, o0, o0, o0, o0, o0, o0, o0, o0, o0, o0, o0, o0, o0, o0, o0, o0]) :: e9 :: (ka1, oO cn0 [(fk0, (.ref ka8)), (fk1, (.ref ka9)), (fk2, (.int (3 : Int32))), (fk3, (.int (2147483639 : Int32))), (fk4, (.int (1073741824 : Int32))), (fk5, (.ref ka7)), (fk6, (.ref ka10)), (fk7, .null), (fk8, (.int (0 : Int32))), (fk9, (.int (1 : Int32))), (fk10, (.ref ka5))]) :: e11 :: (ka2, oA .int [(.int ia1), (.int ia2), (.int ia3)]) :: ds) (fun (v : Option Value) (d : oDs) => (v = some (.int (0 : Int32)) ∧ (e0 :: e1 :: e2 :: (ka3, oA .int (oHd0.set ((oH ia1 ia2 ia3) &&& (15 : Int32)).toNatClampNeg (.int (0 : Int32)))) :: (ka4, oA .int [o0, (.int (1 : Int32)), (.int (2 : Int32))]) :: (ka5, oO cn3 [(fk18, (.ref ka4)), (fk19, (.ref ka3)), (fk20, (.ref ka6))]) :: e6 :: e7 :: (ka7, oA .int [(.int ia1), (.int ia2), (.int ia3), o0, o0, o0, o0, o0, o0, o0, o0, o0, o0, o0, o0, o0, o0, o0, o0, o0, o0, o0, o0, o0, o0, o0, o0, o0, o0, o0, o0, o0, o0, o0, o0, o0, o0, o0, o0, o0, o0, o0, o0, o0, o0, o0, o0, o0]) :: e9 :: (ka1, oO cn0 [(fk0, (.ref ka8)), (fk1, (.ref ka9)), (fk2, (.int (3 : Int32))), (fk3, (.int (2147483639 : Int32))), (fk4, (.int (1073741824 : Int32))), (fk5, (.ref ka7)), (fk6, (.ref ka10)), (fk7, .null), (fk8, (.int (0 : Int32))), (fk9, (.int (1 : Int32))), (fk10, (.ref ka5))]) :: e11 :: (ka2, oA .int [(.int ia1), (.int ia2), (.int ia3)]) :: ds) = d)) := by
  refine oMet.of_body (plainFor_of_name pn_9) ?_
  intro p e s m below meth c T B hby hml hown hnm hret
  refine W_entry (ef_rm_a56 m ka1 ka2) ?_
  refine W_aloadN B (hb hby d25_0) (pc' := 1) rfl rfl rfl ?_
  refine W_aloadN B (hb hby d25_1) (pc' := 2) rfl rfl rfl ?_
  refine W_virtual B (y := (⟨"com/example/tanglemark/tanglemark/datalog/Relation", "contains", "([I)Z"⟩ : MethodName)) (z := (⟨"com/example/tanglemark/tanglemark/datalog/Relation", "contains", "([I)Z"⟩ : MethodName)) hown (ow hw (i := 207) rfl) (ow hw (i := 208) rfl) (oNotFace B (ow hw (i := 210) rfl) rfl) (ow hw (i := 210) rfl) (ow hw (i := 209) rfl) (ow hw (i := 3) rfl) (ow hw (i := 211) rfl) (by decide) (a := ka1) (rm_a55 l Z a0 hw h0 ka1 ka2 _ _ _ ka3 ia1 ia2 ia3 ka4 ka5 ka6 _ _ ka7 _ ka8 ka9 ka10 _ _ hy0 hy1 hy2) (lenOf pd_20 rfl) (hb hby d25_2) (pc' := 5) rfl (argsL := [(.ref ka2)]) (rest := []) rfl (by rw [hml]; rfl) (W := 0) (oLe rfl) (j := 10) rfl (by decide) (cells' := 0) rfl (slots' := 0) rfl ?_
  intro T v_ d_ q_ B
  obtain ⟨rfl, rfl⟩ := q_
  show oWin p e below Z h0 _ _ (T.setTop (mkF m 5 #[.val (.ref ka1), .val (.ref ka2)] [(.int (1 : Int32))]))
  refine W_ifN B (hb hby d25_5) (pc' := 8) rfl (by decide) ?_
  refine W_iconst B (hb hby d25_8) (pc' := 9) rfl (z := (0 : Int32)) (by decide) ?_
  refine W_retN B hret (by simp) (hb hby d25_9) (by decide) ?_
  exact ⟨rfl, rfl⟩
theorem ef_rm_a57 (m : MethodId) (x0 : Addr) : entryFrame m #[(.ref x0)] 6 = mkF m 0 #[.val (.ref x0), .unset, .unset, .unset, .unset, .unset] [] := by first | (simp [entryFrame, mkF, argsToLocals, Value.category]; done) | rfl
set_option maxRecDepth 65536 in
set_option maxHeartbeats 40000000 in
theorem rm_a57 (l : Launch) (Z : State) (a0 : Array Value) (hw : ∀ d ∈ tables_1, d.before a0 Z = true) (h0 : Heap) {lo : Nat} (ka1 : Addr) (e0 : Addr × oD) (e1 : Addr × oD) (e2 : Addr × oD) (e3 : Addr × oD) (e4 : Addr × oD) (e5 : Addr × oD) (e6 : Addr × oD) (e7 : Addr × oD) (e8 : Addr × oD) (e9 : Addr × oD) (e10 : Addr × oD) (ia1 : Int32) (ia2 : Int32) (ia3 : Int32) (ds : oDs) :
    oMet l Z h0 lo (⟨"com/example/tanglemark/tanglemark/datalog/Relation", "hash", "([I)I"⟩ : MethodName) prog_45_method_30_code 6 (some .int) [] ({ frames := 1, cells := 0, slots := 0, locals := 13 } : Room) #[(.ref ka1)] (e0 :: e1 :: e2 :: e3 :: e4 :: e5 :: e6 :: e7 :: e8 :: e9 :: e10 :: (ka1, oA .int [(.int ia1), (.int ia2), (.int ia3)]) :: ds) (fun (v : Option Value) (d : oDs) => (v = some (.int (oH ia1 ia2 ia3)) ∧ (e0 :: e1 :: e2 :: e3 :: e4 :: e5 :: e6 :: e7 :: e8 :: e9 :: e10 :: (ka1, oA .int [(.int ia1), (.int ia2), (.int ia3)]) :: ds) = d)) := by
  refine oMet.of_body (plainFor_of_name pn_9) ?_
  intro p e s m below meth c T B hby hml hown hnm hret
  refine W_entry (ef_rm_a57 m ka1) ?_
  refine W_iconst B (hb hby d30_0) (pc' := 1) rfl (z := (0 : Int32)) (by decide) ?_
  refine W_istoreN B (hb hby d30_1) (pc' := 2) rfl (v := (0 : Int32)) rfl (ls' := #[.val (.ref ka1), .val (.int (0 : Int32)), .unset, .unset, .unset, .unset]) rfl ?_
  refine W_aloadN B (hb hby d30_2) (pc' := 3) rfl rfl rfl ?_
  refine W_astoreN B (hb hby d30_3) (pc' := 4) rfl rfl (ls' := #[.val (.ref ka1), .val (.int (0 : Int32)), .val (.ref ka1), .unset, .unset, .unset]) rfl ?_
  refine W_aloadN B (hb hby d30_4) (pc' := 5) rfl rfl rfl ?_
  refine W_arraylength B (hb hby d30_5) (pc' := 6) rfl (j := 11) rfl (z := (3 : Int32)) rfl ?_
  refine W_istoreN B (hb hby d30_6) (pc' := 7) rfl (v := (3 : Int32)) rfl (ls' := #[.val (.ref ka1), .val (.int (0 : Int32)), .val (.ref ka1), .val (.int (3 : Int32)), .unset, .unset]) rfl ?_
  refine W_iconst B (hb hby d30_7) (pc' := 8) rfl (z := (0 : Int32)) (by decide) ?_
  refine W_istore B (hb hby d30_8) (pc' := 10) rfl (v := (0 : Int32)) rfl (ls' := #[.val (.ref ka1), .val (.int (0 : Int32)), .val (.ref ka1), .val (.int (3 : Int32)), .val (.int (0 : Int32)), .unset]) rfl ?_
  refine W_iload B (hb hby d30_10) (pc' := 12) rfl rfl ?_
  refine W_iloadN B (hb hby d30_12) (pc' := 13) rfl rfl ?_
  refine W_icmpN B (hb hby d30_13) (pc' := 16) rfl (by decide) ?_
  refine W_aloadN B (hb hby d30_16) (pc' := 17) rfl rfl rfl ?_
  refine W_iload B (hb hby d30_17) (pc' := 19) rfl rfl ?_
  refine W_iaload B (hb hby d30_19) (pc' := 20) rfl (i := 11) rfl (by decide) (v := (.int ia1)) rfl ?_
  refine W_istore B (hb hby d30_20) (pc' := 22) rfl (v := ia1) rfl (ls' := #[.val (.ref ka1), .val (.int (0 : Int32)), .val (.ref ka1), .val (.int (3 : Int32)), .val (.int (0 : Int32)), .val (.int ia1)]) rfl ?_
  refine W_iloadN B (hb hby d30_22) (pc' := 23) rfl rfl ?_
  refine W_iload B (hb hby d30_23) (pc' := 25) rfl rfl ?_
  refine W_callS B (y := (⟨"com/example/tanglemark/tanglemark/datalog/Relation", "mix", "(II)I"⟩ : MethodName)) hown (ow hw (i := 229) rfl) (ow hw (i := 230) rfl) (ow hw (i := 3) rfl) (ow hw (i := 231) rfl) (by decide) (rm_a24 l Z a0 hw h0 ia1 _ ) (lenOf pd_2 rfl) (hb hby d30_25) (pc' := 28) rfl (argsL := [(.int (0 : Int32)), (.int ia1)]) (rest := []) rfl (by rw [hml]; rfl) (W := 0) (oLe rfl) (by decide) (cells' := 0) rfl (slots' := 0) rfl ?_
  intro T v_ d_ q_ B
  obtain ⟨rfl, rfl⟩ := q_
  show oWin p e below Z h0 _ _ (T.setTop (mkF m 28 #[.val (.ref ka1), .val (.int (0 : Int32)), .val (.ref ka1), .val (.int (3 : Int32)), .val (.int (0 : Int32)), .val (.int ia1)] [(.int (oM (0 : Int32) ia1))]))
  refine W_istoreN B (hb hby d30_28) (pc' := 29) rfl (v := (oM (0 : Int32) ia1)) rfl (ls' := #[.val (.ref ka1), .val (.int (oM (0 : Int32) ia1)), .val (.ref ka1), .val (.int (3 : Int32)), .val (.int (0 : Int32)), .val (.int ia1)]) rfl ?_
  refine W_iinc B (hb hby d30_29) (pc' := 32) rfl rfl (z := (1 : Int32)) (by decide) (ls' := #[.val (.ref ka1), .val (.int (oM (0 : Int32) ia1)), .val (.ref ka1), .val (.int (3 : Int32)), .val (.int (1 : Int32)), .val (.int ia1)]) rfl ?_
  refine W_goto B (hb hby d30_32) (by decide) (pc' := 10) (by decide) ?_
  refine W_iload B (hb hby d30_10) (pc' := 12) rfl rfl ?_
  refine W_iloadN B (hb hby d30_12) (pc' := 13) rfl rfl ?_
  refine W_icmpN B (hb hby d30_13) (pc' := 16) rfl (by decide) ?_
  refine W_aloadN B (hb hby d30_16) (pc' := 17) rfl rfl rfl ?_
  refine W_iload B (hb hby d30_17) (pc' := 19) rfl rfl ?_
  refine W_iaload B (hb hby d30_19) (pc' := 20) rfl (i := 11) rfl (by decide) (v := (.int ia2)) rfl ?_
  refine W_istore B (hb hby d30_20) (pc' := 22) rfl (v := ia2) rfl (ls' := #[.val (.ref ka1), .val (.int (oM (0 : Int32) ia1)), .val (.ref ka1), .val (.int (3 : Int32)), .val (.int (1 : Int32)), .val (.int ia2)]) rfl ?_
  refine W_iloadN B (hb hby d30_22) (pc' := 23) rfl rfl ?_
  refine W_iload B (hb hby d30_23) (pc' := 25) rfl rfl ?_
  refine W_callS B (y := (⟨"com/example/tanglemark/tanglemark/datalog/Relation", "mix", "(II)I"⟩ : MethodName)) hown (ow hw (i := 229) rfl) (ow hw (i := 230) rfl) (ow hw (i := 3) rfl) (ow hw (i := 231) rfl) (by decide) (rm_a25 l Z a0 hw h0 ia1 ia2 _ ) (lenOf pd_2 rfl) (hb hby d30_25) (pc' := 28) rfl (argsL := [(.int (oM (0 : Int32) ia1)), (.int ia2)]) (rest := []) rfl (by rw [hml]; rfl) (W := 0) (oLe rfl) (by decide) (cells' := 0) rfl (slots' := 0) rfl ?_
  intro T v_ d_ q_ B
  obtain ⟨rfl, rfl⟩ := q_
  show oWin p e below Z h0 _ _ (T.setTop (mkF m 28 #[.val (.ref ka1), .val (.int (oM (0 : Int32) ia1)), .val (.ref ka1), .val (.int (3 : Int32)), .val (.int (1 : Int32)), .val (.int ia2)] [(.int (oM (oM (0 : Int32) ia1) ia2))]))
  refine W_istoreN B (hb hby d30_28) (pc' := 29) rfl (v := (oM (oM (0 : Int32) ia1) ia2)) rfl (ls' := #[.val (.ref ka1), .val (.int (oM (oM (0 : Int32) ia1) ia2)), .val (.ref ka1), .val (.int (3 : Int32)), .val (.int (1 : Int32)), .val (.int ia2)]) rfl ?_
  refine W_iinc B (hb hby d30_29) (pc' := 32) rfl rfl (z := (2 : Int32)) (by decide) (ls' := #[.val (.ref ka1), .val (.int (oM (oM (0 : Int32) ia1) ia2)), .val (.ref ka1), .val (.int (3 : Int32)), .val (.int (2 : Int32)), .val (.int ia2)]) rfl ?_
  refine W_goto B (hb hby d30_32) (by decide) (pc' := 10) (by decide) ?_
  refine W_iload B (hb hby d30_10) (pc' := 12) rfl rfl ?_
  refine W_iloadN B (hb hby d30_12) (pc' := 13) rfl rfl ?_
  refine W_icmpN B (hb hby d30_13) (pc' := 16) rfl (by decide) ?_
  refine W_aloadN B (hb hby d30_16) (pc' := 17) rfl rfl rfl ?_
  refine W_iload B (hb hby d30_17) (pc' := 19) rfl rfl ?_
  refine W_iaload B (hb hby d30_19) (pc' := 20) rfl (i := 11) rfl (by decide) (v := (.int ia3)) rfl ?_
  refine W_istore B (hb hby d30_20) (pc' := 22) rfl (v := ia3) rfl (ls' := #[.val (.ref ka1), .val (.int (oM (oM (0 : Int32) ia1) ia2)), .val (.ref ka1), .val (.int (3 : Int32)), .val (.int (2 : Int32)), .val (.int ia3)]) rfl ?_
  refine W_iloadN B (hb hby d30_22) (pc' := 23) rfl rfl ?_
  refine W_iload B (hb hby d30_23) (pc' := 25) rfl rfl ?_
  refine W_callS B (y := (⟨"com/example/tanglemark/tanglemark/datalog/Relation", "mix", "(II)I"⟩ : MethodName)) hown (ow hw (i := 229) rfl) (ow hw (i := 230) rfl) (ow hw (i := 3) rfl) (ow hw (i := 231) rfl) (by decide) (rm_a26 l Z a0 hw h0 ia1 ia2 ia3 _ ) (lenOf pd_2 rfl) (hb hby d30_25) (pc' := 28) rfl (argsL := [(.int (oM (oM (0 : Int32) ia1) ia2)), (.int ia3)]) (rest := []) rfl (by rw [hml]; rfl) (W := 0) (oLe rfl) (by decide) (cells' := 0) rfl (slots' := 0) rfl ?_
  intro T v_ d_ q_ B
  obtain ⟨rfl, rfl⟩ := q_
  show oWin p e below Z h0 _ _ (T.setTop (mkF m 28 #[.val (.ref ka1), .val (.int (oM (oM (0 : Int32) ia1) ia2)), .val (.ref ka1), .val (.int (3 : Int32)), .val (.int (2 : Int32)), .val (.int ia3)] [(.int (oM (oM (oM (0 : Int32) ia1) ia2) ia3))]))
  refine W_istoreN B (hb hby d30_28) (pc' := 29) rfl (v := (oM (oM (oM (0 : Int32) ia1) ia2) ia3)) rfl (ls' := #[.val (.ref ka1), .val (.int (oM (oM (oM (0 : Int32) ia1) ia2) ia3)), .val (.ref ka1), .val (.int (3 : Int32)), .val (.int (2 : Int32)), .val (.int ia3)]) rfl ?_
  refine W_iinc B (hb hby d30_29) (pc' := 32) rfl rfl (z := (3 : Int32)) (by decide) (ls' := #[.val (.ref ka1), .val (.int (oM (oM (oM (0 : Int32) ia1) ia2) ia3)), .val (.ref ka1), .val (.int (3 : Int32)), .val (.int (3 : Int32)), .val (.int ia3)]) rfl ?_
  refine W_goto B (hb hby d30_32) (by decide) (pc' := 10) (by decide) ?_
  refine W_iload B (hb hby d30_10) (pc' := 12) rfl rfl ?_
  refine W_iloadN B (hb hby d30_12) (pc' := 13) rfl rfl ?_
  refine W_icmpY B (hb hby d30_13) (by decide) (pc' := 35) (by decide) (by decide) ?_
  refine W_iloadN B (hb hby d30_35) (pc' := 36) rfl rfl ?_
  refine W_callS B (y := (⟨"com/example/tanglemark/tanglemark/datalog/Relation", "finish", "(I)I"⟩ : MethodName)) hown (ow hw (i := 233) rfl) (ow hw (i := 234) rfl) (ow hw (i := 3) rfl) (ow hw (i := 235) rfl) (by decide) (rm_a27 l Z a0 hw h0 ia1 ia2 ia3 _ ) (lenOf pd_1 rfl) (hb hby d30_36) (pc' := 39) rfl (argsL := [(.int (oM (oM (oM (0 : Int32) ia1) ia2) ia3))]) (rest := []) rfl (by rw [hml]; rfl) (W := 0) (oLe rfl) (by decide) (cells' := 0) rfl (slots' := 0) rfl ?_
  intro T v_ d_ q_ B
  obtain ⟨rfl, rfl⟩ := q_
  show oWin p e below Z h0 _ _ (T.setTop (mkF m 39 #[.val (.ref ka1), .val (.int (oM (oM (oM (0 : Int32) ia1) ia2) ia3)), .val (.ref ka1), .val (.int (3 : Int32)), .val (.int (3 : Int32)), .val (.int ia3)] [(.int (oF (oM (oM (oM (0 : Int32) ia1) ia2) ia3)))]))
  refine W_retI B hret (hb hby d30_39) (by decide) ?_
  exact ⟨rfl, rfl⟩
theorem ef_rm_a58 (m : MethodId) (x0 : Addr) (x2 : Addr) (x3 : Addr) : entryFrame m #[(.ref x0), (.int (0 : Int32)), (.ref x2), (.ref x3)] 6 = mkF m 0 #[.val (.ref x0), .val (.int (0 : Int32)), .val (.ref x2), .val (.ref x3), .unset, .unset] [] := by first | (simp [entryFrame, mkF, argsToLocals, Value.category]; done) | rfl
set_option maxRecDepth 65536 in
set_option maxHeartbeats 40000000 in
theorem rm_a58 (l : Launch) (Z : State) (a0 : Array Value) (hw : ∀ d ∈ tables_1, d.before a0 Z = true) (h0 : Heap) {lo : Nat} (ka1 : Addr) (ka2 : Addr) (ka3 : Addr) (e0 : Addr × oD) (e1 : Addr × oD) (e2 : Addr × oD) (e3 : Addr × oD) (e5 : Addr × oD) (e6 : Addr × oD) (e7 : Addr × oD) (ka4 : Addr) (ia1 : Int32) (ia2 : Int32) (ia3 : Int32) (e9 : Addr × oD) (ka5 : Addr) (ka6 : Addr) (ka7 : Addr) (ka8 : Addr) (ds : oDs) :
    oMet l Z h0 lo (⟨"com/example/tanglemark/tanglemark/datalog/Relation", "hasKey", "(I[I[I)Z"⟩ : MethodName) prog_45_method_17_code 6 (some .boolean) [] ({ frames := 0, cells := 0, slots := 0, locals := 0 } : Room) #[(.ref ka1), (.int (0 : Int32)), (.ref ka2), (.ref ka3)] (e0 :: e1 :: e2 :: e3 :: (ka2, oA .int [o0, (.int (1 : Int32)), (.int (2 : Int32))]) :: e5 :: e6 :: e7 :: (ka4, oA .int [(.int ia1), (.int ia2), (.int ia3), o0, o0, o0, o0, o0, o0, o0, o0, o0, o0, o0, o0, o0, o0, o0, o0, o0, o0, o0, o0, o0, o0, o0, o0, o0, o0, o0, o0, o0, o0, o0, o0, o0, o0, o0, o0, o0, o0, o0, o0, o0, o0, o0, o0, o0]) :: e9 :: (ka1, oO cn0 [(fk0, (.ref ka5)), (fk1, (.ref ka6)), (fk2, (.int (3 : Int32))), (fk3, (.int (2147483639 : Int32))), (fk4, (.int (1073741824 : Int32))), (fk5, (.ref ka4)), (fk6, (.ref ka7)), (fk7, .null), (fk8, (.int (0 : Int32))), (fk9, (.int (1 : Int32))), (fk10, (.ref ka8))]) :: (ka3, oA .int [(.int ia1), (.int ia2), (.int ia3)]) :: ds) (fun (v : Option Value) (d : oDs) => (v = some (.int (1 : Int32)) ∧ (e0 :: e1 :: e2 :: e3 :: (ka2, oA .int [o0, (.int (1 : Int32)), (.int (2 : Int32))]) :: e5 :: e6 :: e7 :: (ka4, oA .int [(.int ia1), (.int ia2), (.int ia3), o0, o0, o0, o0, o0, o0, o0, o0, o0, o0, o0, o0, o0, o0, o0, o0, o0, o0, o0, o0, o0, o0, o0, o0, o0, o0, o0, o0, o0, o0, o0, o0, o0, o0, o0, o0, o0, o0, o0, o0, o0, o0, o0, o0, o0]) :: e9 :: (ka1, oO cn0 [(fk0, (.ref ka5)), (fk1, (.ref ka6)), (fk2, (.int (3 : Int32))), (fk3, (.int (2147483639 : Int32))), (fk4, (.int (1073741824 : Int32))), (fk5, (.ref ka4)), (fk6, (.ref ka7)), (fk7, .null), (fk8, (.int (0 : Int32))), (fk9, (.int (1 : Int32))), (fk10, (.ref ka8))]) :: (ka3, oA .int [(.int ia1), (.int ia2), (.int ia3)]) :: ds) = d)) := by
  refine oMet.of_body (plainFor_of_name pn_9) ?_
  intro p e s m below meth c T B hby hml hown hnm hret
  refine W_entry (ef_rm_a58 m ka1 ka2 ka3) ?_
  refine W_iloadN B (hb hby d40_0) (pc' := 1) rfl rfl ?_
  refine W_aloadN B (hb hby d40_1) (pc' := 2) rfl rfl rfl ?_
  refine W_getfield B hown (host := "") (Or.inl (ow hw (i := 50) rfl)) Via.refl (hb hby d40_2) (pc' := 5) rfl (j := 10) rfl (q := 2) rfl ?_
  intro T B
  refine W_imul B (hb hby d40_5) (pc' := 6) rfl (z := (0 : Int32)) (by decide) ?_
  refine W_istore B (hb hby d40_6) (pc' := 8) rfl (v := (0 : Int32)) rfl (ls' := #[.val (.ref ka1), .val (.int (0 : Int32)), .val (.ref ka2), .val (.ref ka3), .val (.int (0 : Int32)), .unset]) rfl ?_
  refine W_iconst B (hb hby d40_8) (pc' := 9) rfl (z := (0 : Int32)) (by decide) ?_
  refine W_istore B (hb hby d40_9) (pc' := 11) rfl (v := (0 : Int32)) rfl (ls' := #[.val (.ref ka1), .val (.int (0 : Int32)), .val (.ref ka2), .val (.ref ka3), .val (.int (0 : Int32)), .val (.int (0 : Int32))]) rfl ?_
  refine W_iload B (hb hby d40_11) (pc' := 13) rfl rfl ?_
  refine W_aloadN B (hb hby d40_13) (pc' := 14) rfl rfl rfl ?_
  refine W_arraylength B (hb hby d40_14) (pc' := 15) rfl (j := 4) rfl (z := (3 : Int32)) rfl ?_
  refine W_icmpN B (hb hby d40_15) (pc' := 18) rfl (by decide) ?_
  refine W_aloadN B (hb hby d40_18) (pc' := 19) rfl rfl rfl ?_
  refine W_getfield B hown (host := "") (Or.inl (ow hw (i := 69) rfl)) Via.refl (hb hby d40_19) (pc' := 22) rfl (j := 10) rfl (q := 5) rfl ?_
  intro T B
  refine W_iload B (hb hby d40_22) (pc' := 24) rfl rfl ?_
  refine W_aloadN B (hb hby d40_24) (pc' := 25) rfl rfl rfl ?_
  refine W_iload B (hb hby d40_25) (pc' := 27) rfl rfl ?_
  refine W_iaload B (hb hby d40_27) (pc' := 28) rfl (i := 4) rfl (by decide) (v := (.int (0 : Int32))) rfl ?_
  refine W_iadd B (hb hby d40_28) (pc' := 29) rfl (z := (0 : Int32)) (by decide) ?_
  refine W_iaload B (hb hby d40_29) (pc' := 30) rfl (i := 8) rfl (by decide) (v := (.int ia1)) rfl ?_
  refine W_aloadN B (hb hby d40_30) (pc' := 31) rfl rfl rfl ?_
  refine W_iload B (hb hby d40_31) (pc' := 33) rfl rfl ?_
  refine W_iaload B (hb hby d40_33) (pc' := 34) rfl (i := 11) rfl (by decide) (v := (.int ia1)) rfl ?_
  refine W_icmpY B (hb hby d40_34) (by decide) (pc' := 39) (by decide) (teq (rfl : ia1 = ia1)).1 ?_
  refine W_iinc B (hb hby d40_39) (pc' := 42) rfl rfl (z := (1 : Int32)) (by decide) (ls' := #[.val (.ref ka1), .val (.int (0 : Int32)), .val (.ref ka2), .val (.ref ka3), .val (.int (0 : Int32)), .val (.int (1 : Int32))]) rfl ?_
  refine W_goto B (hb hby d40_42) (by decide) (pc' := 11) (by decide) ?_
  refine W_iload B (hb hby d40_11) (pc' := 13) rfl rfl ?_
  refine W_aloadN B (hb hby d40_13) (pc' := 14) rfl rfl rfl ?_
  refine W_arraylength B (hb hby d40_14) (pc' := 15) rfl (j := 4) rfl (z := (3 : Int32)) rfl ?_
  refine W_icmpN B (hb hby d40_15) (pc' := 18) rfl (by decide) ?_
  refine W_aloadN B (hb hby d40_18) (pc' := 19) rfl rfl rfl ?_
  refine W_getfield B hown (host := "") (Or.inl (ow hw (i := 69) rfl)) Via.refl (hb hby d40_19) (pc' := 22) rfl (j := 10) rfl (q := 5) rfl ?_
  intro T B
  refine W_iload B (hb hby d40_22) (pc' := 24) rfl rfl ?_
  refine W_aloadN B (hb hby d40_24) (pc' := 25) rfl rfl rfl ?_
  refine W_iload B (hb hby d40_25) (pc' := 27) rfl rfl ?_
  refine W_iaload B (hb hby d40_27) (pc' := 28) rfl (i := 4) rfl (by decide) (v := (.int (1 : Int32))) rfl ?_
  refine W_iadd B (hb hby d40_28) (pc' := 29) rfl (z := (1 : Int32)) (by decide) ?_
  refine W_iaload B (hb hby d40_29) (pc' := 30) rfl (i := 8) rfl (by decide) (v := (.int ia2)) rfl ?_
  refine W_aloadN B (hb hby d40_30) (pc' := 31) rfl rfl rfl ?_
  refine W_iload B (hb hby d40_31) (pc' := 33) rfl rfl ?_
  refine W_iaload B (hb hby d40_33) (pc' := 34) rfl (i := 11) rfl (by decide) (v := (.int ia2)) rfl ?_
  refine W_icmpY B (hb hby d40_34) (by decide) (pc' := 39) (by decide) (teq (rfl : ia2 = ia2)).1 ?_
  refine W_iinc B (hb hby d40_39) (pc' := 42) rfl rfl (z := (2 : Int32)) (by decide) (ls' := #[.val (.ref ka1), .val (.int (0 : Int32)), .val (.ref ka2), .val (.ref ka3), .val (.int (0 : Int32)), .val (.int (2 : Int32))]) rfl ?_
  refine W_goto B (hb hby d40_42) (by decide) (pc' := 11) (by decide) ?_
  refine W_iload B (hb hby d40_11) (pc' := 13) rfl rfl ?_
  refine W_aloadN B (hb hby d40_13) (pc' := 14) rfl rfl rfl ?_
  refine W_arraylength B (hb hby d40_14) (pc' := 15) rfl (j := 4) rfl (z := (3 : Int32)) rfl ?_
  refine W_icmpN B (hb hby d40_15) (pc' := 18) rfl (by decide) ?_
  refine W_aloadN B (hb hby d40_18) (pc' := 19) rfl rfl rfl ?_
  refine W_getfield B hown (host := "") (Or.inl (ow hw (i := 69) rfl)) Via.refl (hb hby d40_19) (pc' := 22) rfl (j := 10) rfl (q := 5) rfl ?_
  intro T B
  refine W_iload B (hb hby d40_22) (pc' := 24) rfl rfl ?_
  refine W_aloadN B (hb hby d40_24) (pc' := 25) rfl rfl rfl ?_
  refine W_iload B (hb hby d40_25) (pc' := 27) rfl rfl ?_
  refine W_iaload B (hb hby d40_27) (pc' := 28) rfl (i := 4) rfl (by decide) (v := (.int (2 : Int32))) rfl ?_
  refine W_iadd B (hb hby d40_28) (pc' := 29) rfl (z := (2 : Int32)) (by decide) ?_
  refine W_iaload B (hb hby d40_29) (pc' := 30) rfl (i := 8) rfl (by decide) (v := (.int ia3)) rfl ?_
  refine W_aloadN B (hb hby d40_30) (pc' := 31) rfl rfl rfl ?_
  refine W_iload B (hb hby d40_31) (pc' := 33) rfl rfl ?_
  refine W_iaload B (hb hby d40_33) (pc' := 34) rfl (i := 11) rfl (by decide) (v := (.int ia3)) rfl ?_
  refine W_icmpY B (hb hby d40_34) (by decide) (pc' := 39) (by decide) (teq (rfl : ia3 = ia3)).1 ?_
  refine W_iinc B (hb hby d40_39) (pc' := 42) rfl rfl (z := (3 : Int32)) (by decide) (ls' := #[.val (.ref ka1), .val (.int (0 : Int32)), .val (.ref ka2), .val (.ref ka3), .val (.int (0 : Int32)), .val (.int (3 : Int32))]) rfl ?_
  refine W_goto B (hb hby d40_42) (by decide) (pc' := 11) (by decide) ?_
  refine W_iload B (hb hby d40_11) (pc' := 13) rfl rfl ?_
  refine W_aloadN B (hb hby d40_13) (pc' := 14) rfl rfl rfl ?_
  refine W_arraylength B (hb hby d40_14) (pc' := 15) rfl (j := 4) rfl (z := (3 : Int32)) rfl ?_
  refine W_icmpY B (hb hby d40_15) (by decide) (pc' := 45) (by decide) (by decide) ?_
  refine W_iconst B (hb hby d40_45) (pc' := 46) rfl (z := (1 : Int32)) (by decide) ?_
  refine W_retN B hret (by simp) (hb hby d40_46) (by decide) ?_
  exact ⟨rfl, rfl⟩
theorem ef_rm_a59 (m : MethodId) (x0 : Addr) (x1 : Addr) (x2 : Addr) : entryFrame m #[(.ref x0), (.ref x1), (.ref x2), (.int (1 : Int32))] 5 = mkF m 0 #[.val (.ref x0), .val (.ref x1), .val (.ref x2), .val (.int (1 : Int32)), .unset] [] := by first | (simp [entryFrame, mkF, argsToLocals, Value.category]; done) | rfl
set_option maxRecDepth 65536 in
set_option maxHeartbeats 40000000 in
theorem rm_a59 (l : Launch) (Z : State) (a0 : Array Value) (hw : ∀ d ∈ tables_1, d.before a0 Z = true) (h0 : Heap) {lo : Nat} (ka1 : Addr) (ka2 : Addr) (ka3 : Addr) (e0 : Addr × oD) (e1 : Addr × oD) (e2 : Addr × oD) (ka4 : Addr) (ia1 : Int32) (ia2 : Int32) (ia3 : Int32) (ka5 : Addr) (ka6 : Addr) (e6 : Addr × oD) (e7 : Addr × oD) (ka7 : Addr) (e9 : Addr × oD) (ka8 : Addr) (ka9 : Addr) (ka10 : Addr) (ds : oDs) (hy0 : (oHd0.set ((oH ia1 ia2 ia3) &&& (15 : Int32)).toNatClampNeg (.int (0 : Int32))).length.toInt32 = (16 : Int32)) (hy1 : (oHd0.set ((oH ia1 ia2 ia3) &&& (15 : Int32)).toNatClampNeg (.int (0 : Int32)))[((oH ia1 ia2 ia3) &&& (15 : Int32)).toNatClampNeg]? = some (.int (0 : Int32))) (hy2 : ¬ ((oH ia1 ia2 ia3) &&& (15 : Int32)) < (0 : Int32)) :
    oMet l Z h0 lo (⟨"com/example/tanglemark/tanglemark/datalog/Relation", "newest", "(Lcom/example/tanglemark/tanglemark/datalog/Relation$Chains;[II)I"⟩ : MethodName) prog_45_method_15_code 5 (some .int) [] ({ frames := 2, cells := 0, slots := 0, locals := 31 } : Room) #[(.ref ka1), (.ref ka2), (.ref ka3), (.int (1 : Int32))] (e0 :: e1 :: e2 :: (ka4, oA .int (oHd0.set ((oH ia1 ia2 ia3) &&& (15 : Int32)).toNatClampNeg (.int (0 : Int32)))) :: (ka5, oA .int [o0, (.int (1 : Int32)), (.int (2 : Int32))]) :: (ka2, oO cn3 [(fk18, (.ref ka5)), (fk19, (.ref ka4)), (fk20, (.ref ka6))]) :: e6 :: e7 :: (ka7, oA .int [(.int ia1), (.int ia2), (.int ia3), o0, o0, o0, o0, o0, o0, o0, o0, o0, o0, o0, o0, o0, o0, o0, o0, o0, o0, o0, o0, o0, o0, o0, o0, o0, o0, o0, o0, o0, o0, o0, o0, o0, o0, o0, o0, o0, o0, o0, o0, o0, o0, o0, o0, o0]) :: e9 :: (ka1, oO cn0 [(fk0, (.ref ka8)), (fk1, (.ref ka9)), (fk2, (.int (3 : Int32))), (fk3, (.int (2147483639 : Int32))), (fk4, (.int (1073741824 : Int32))), (fk5, (.ref ka7)), (fk6, (.ref ka10)), (fk7, .null), (fk8, (.int (0 : Int32))), (fk9, (.int (1 : Int32))), (fk10, (.ref ka2))]) :: (ka3, oA .int [(.int ia1), (.int ia2), (.int ia3)]) :: ds) (fun (v : Option Value) (d : oDs) => (v = some (.int (0 : Int32)) ∧ (e0 :: e1 :: e2 :: (ka4, oA .int (oHd0.set ((oH ia1 ia2 ia3) &&& (15 : Int32)).toNatClampNeg (.int (0 : Int32)))) :: (ka5, oA .int [o0, (.int (1 : Int32)), (.int (2 : Int32))]) :: (ka2, oO cn3 [(fk18, (.ref ka5)), (fk19, (.ref ka4)), (fk20, (.ref ka6))]) :: e6 :: e7 :: (ka7, oA .int [(.int ia1), (.int ia2), (.int ia3), o0, o0, o0, o0, o0, o0, o0, o0, o0, o0, o0, o0, o0, o0, o0, o0, o0, o0, o0, o0, o0, o0, o0, o0, o0, o0, o0, o0, o0, o0, o0, o0, o0, o0, o0, o0, o0, o0, o0, o0, o0, o0, o0, o0, o0]) :: e9 :: (ka1, oO cn0 [(fk0, (.ref ka8)), (fk1, (.ref ka9)), (fk2, (.int (3 : Int32))), (fk3, (.int (2147483639 : Int32))), (fk4, (.int (1073741824 : Int32))), (fk5, (.ref ka7)), (fk6, (.ref ka10)), (fk7, .null), (fk8, (.int (0 : Int32))), (fk9, (.int (1 : Int32))), (fk10, (.ref ka2))]) :: (ka3, oA .int [(.int ia1), (.int ia2), (.int ia3)]) :: ds) = d)) := by
  refine oMet.of_body (plainFor_of_name pn_9) ?_
  intro p e s m below meth c T B hby hml hown hnm hret
  refine W_entry (ef_rm_a59 m ka1 ka2 ka3) ?_
  refine W_aloadN B (hb hby d29_0) (pc' := 1) rfl rfl rfl ?_
  refine W_aloadN B (hb hby d29_1) (pc' := 2) rfl rfl rfl ?_
  refine W_callS B (y := (⟨"com/example/tanglemark/tanglemark/datalog/Relation", "hash", "([I)I"⟩ : MethodName)) hown (ow hw (i := 226) rfl) (ow hw (i := 227) rfl) (ow hw (i := 3) rfl) (ow hw (i := 228) rfl) (by decide) (rm_a57 l Z a0 hw h0 ka3 _ _ _ _ _ _ _ _ _ _ _ ia1 ia2 ia3 _ ) (lenOf pd_17 rfl) (hb hby d29_2) (pc' := 5) rfl (argsL := [(.ref ka3)]) (rest := [(.ref ka2)]) rfl (by rw [hml]; rfl) (W := 1) (oLe rfl) (by decide) (cells' := 0) rfl (slots' := 0) rfl ?_
  intro T v_ d_ q_ B
  obtain ⟨rfl, rfl⟩ := q_
  show oWin p e below Z h0 _ _ (T.setTop (mkF m 5 #[.val (.ref ka1), .val (.ref ka2), .val (.ref ka3), .val (.int (1 : Int32)), .unset] [(.int (oH ia1 ia2 ia3)), (.ref ka2)]))
  refine W_callS B (y := (⟨"com/example/tanglemark/tanglemark/datalog/Relation", "first", "(Lcom/example/tanglemark/tanglemark/datalog/Relation$Chains;I)I"⟩ : MethodName)) hown (ow hw (i := 236) rfl) (ow hw (i := 237) rfl) (ow hw (i := 3) rfl) (ow hw (i := 238) rfl) (by decide) (rm_a45 l Z a0 hw h0 ka2 ia1 ia2 ia3 _ _ _ ka4 _ ka5 ka6 _ hy0 hy1 hy2) (lenOf pd_18 rfl) (hb hby d29_5) (pc' := 8) rfl (argsL := [(.ref ka2), (.int (oH ia1 ia2 ia3))]) (rest := []) rfl (by rw [hml]; rfl) (W := 0) (oLe rfl) (by decide) (cells' := 0) rfl (slots' := 0) rfl ?_
  intro T v_ d_ q_ B
  obtain ⟨rfl, rfl⟩ := q_
  show oWin p e below Z h0 _ _ (T.setTop (mkF m 8 #[.val (.ref ka1), .val (.ref ka2), .val (.ref ka3), .val (.int (1 : Int32)), .unset] [(.int (0 : Int32))]))
  refine W_istore B (hb hby d29_8) (pc' := 10) rfl (v := (0 : Int32)) rfl (ls' := #[.val (.ref ka1), .val (.ref ka2), .val (.ref ka3), .val (.int (1 : Int32)), .val (.int (0 : Int32))]) rfl ?_
  refine W_iload B (hb hby d29_10) (pc' := 12) rfl rfl ?_
  refine W_ifN B (hb hby d29_12) (pc' := 15) rfl (by decide) ?_
  refine W_iload B (hb hby d29_15) (pc' := 17) rfl rfl ?_
  refine W_iloadN B (hb hby d29_17) (pc' := 18) rfl rfl ?_
  refine W_icmpN B (hb hby d29_18) (pc' := 21) rfl (by decide) ?_
  refine W_aloadN B (hb hby d29_21) (pc' := 22) rfl rfl rfl ?_
  refine W_iload B (hb hby d29_22) (pc' := 24) rfl rfl ?_
  refine W_aloadN B (hb hby d29_24) (pc' := 25) rfl rfl rfl ?_
  refine W_getfield B hown (host := "") (Or.inl (ow hw (i := 274) rfl)) (Via.of (ow hw (i := 275) rfl)) (hb hby d29_25) (pc' := 28) rfl (j := 5) rfl (q := 0) rfl ?_
  intro T B
  refine W_aloadN B (hb hby d29_28) (pc' := 29) rfl rfl rfl ?_
  refine W_privateS B (y := (⟨"com/example/tanglemark/tanglemark/datalog/Relation", "hasKey", "(I[I[I)Z"⟩ : MethodName)) hown (ow hw (i := 280) rfl) (ow hw (i := 281) rfl) (ow hw (i := 2) rfl) (ow hw (i := 282) rfl) (ow hw (i := 3) rfl) (ow hw (i := 283) rfl) (by decide) (a := ka1) (rm_a58 l Z a0 hw h0 ka1 ka5 ka3 _ _ _ _ _ _ _ ka7 ia1 ia2 ia3 _ ka8 ka9 ka10 ka2 _ ) (lenOf pd_24 rfl) (hb hby d29_29) (pc' := 32) rfl (argsL := [(.int (0 : Int32)), (.ref ka5), (.ref ka3)]) (rest := []) rfl (by rw [hml]; rfl) (W := 0) (oLe rfl) (j := 10) rfl (by decide) (cells' := 0) rfl (slots' := 0) rfl ?_
  intro T v_ d_ q_ B
  obtain ⟨rfl, rfl⟩ := q_
  show oWin p e below Z h0 _ _ (T.setTop (mkF m 32 #[.val (.ref ka1), .val (.ref ka2), .val (.ref ka3), .val (.int (1 : Int32)), .val (.int (0 : Int32))] [(.int (1 : Int32))]))
  refine W_ifN B (hb hby d29_32) (pc' := 35) rfl (by decide) ?_
  refine W_iload B (hb hby d29_35) (pc' := 37) rfl rfl ?_
  refine W_retI B hret (hb hby d29_37) (by decide) ?_
  exact ⟨rfl, rfl⟩
theorem ef_rm_a60 (m : MethodId) (x0 : Addr) (x1 : Addr) : entryFrame m #[(.ref x0), (.ref x1)] 2 = mkF m 0 #[.val (.ref x0), .val (.ref x1)] [] := by first | (simp [entryFrame, mkF, argsToLocals, Value.category]; done) | rfl
set_option maxRecDepth 65536 in
set_option maxHeartbeats 40000000 in
theorem rm_a60 (l : Launch) (Z : State) (a0 : Array Value) (hw : ∀ d ∈ tables_1, d.before a0 Z = true) (h0 : Heap) {lo : Nat} (ka1 : Addr) (ka2 : Addr) (e0 : Addr × oD) (e1 : Addr × oD) (e2 : Addr × oD) (ka3 : Addr) (ia1 : Int32) (ia2 : Int32) (ia3 : Int32) (ka4 : Addr) (ka5 : Addr) (ka6 : Addr) (e6 : Addr × oD) (e7 : Addr × oD) (ka7 : Addr) (e9 : Addr × oD) (ka8 : Addr) (ka9 : Addr) (ka10 : Addr) (ds : oDs) (hy0 : (oHd0.set ((oH ia1 ia2 ia3) &&& (15 : Int32)).toNatClampNeg (.int (0 : Int32))).length.toInt32 = (16 : Int32)) (hy1 : (oHd0.set ((oH ia1 ia2 ia3) &&& (15 : Int32)).toNatClampNeg (.int (0 : Int32)))[((oH ia1 ia2 ia3) &&& (15 : Int32)).toNatClampNeg]? = some (.int (0 : Int32))) (hy2 : ¬ ((oH ia1 ia2 ia3) &&& (15 : Int32)) < (0 : Int32)) :
    oMet l Z h0 lo (⟨"com/example/tanglemark/tanglemark/datalog/Relation", "row", "([I)I"⟩ : MethodName) prog_45_method_14_code 2 (some .int) [] ({ frames := 3, cells := 0, slots := 0, locals := 47 } : Room) #[(.ref ka1), (.ref ka2)] (e0 :: e1 :: e2 :: (ka3, oA .int (oHd0.set ((oH ia1 ia2 ia3) &&& (15 : Int32)).toNatClampNeg (.int (0 : Int32)))) :: (ka4, oA .int [o0, (.int (1 : Int32)), (.int (2 : Int32))]) :: (ka5, oO cn3 [(fk18, (.ref ka4)), (fk19, (.ref ka3)), (fk20, (.ref ka6))]) :: e6 :: e7 :: (ka7, oA .int [(.int ia1), (.int ia2), (.int ia3), o0, o0, o0, o0, o0, o0, o0, o0, o0, o0, o0, o0, o0, o0, o0, o0, o0, o0, o0, o0, o0, o0, o0, o0, o0, o0, o0, o0, o0, o0, o0, o0, o0, o0, o0, o0, o0, o0, o0, o0, o0, o0, o0, o0, o0]) :: e9 :: (ka1, oO cn0 [(fk0, (.ref ka8)), (fk1, (.ref ka9)), (fk2, (.int (3 : Int32))), (fk3, (.int (2147483639 : Int32))), (fk4, (.int (1073741824 : Int32))), (fk5, (.ref ka7)), (fk6, (.ref ka10)), (fk7, .null), (fk8, (.int (0 : Int32))), (fk9, (.int (1 : Int32))), (fk10, (.ref ka5))]) :: (ka2, oA .int [(.int ia1), (.int ia2), (.int ia3)]) :: ds) (fun (v : Option Value) (d : oDs) => (v = some (.int (0 : Int32)) ∧ (e0 :: e1 :: e2 :: (ka3, oA .int (oHd0.set ((oH ia1 ia2 ia3) &&& (15 : Int32)).toNatClampNeg (.int (0 : Int32)))) :: (ka4, oA .int [o0, (.int (1 : Int32)), (.int (2 : Int32))]) :: (ka5, oO cn3 [(fk18, (.ref ka4)), (fk19, (.ref ka3)), (fk20, (.ref ka6))]) :: e6 :: e7 :: (ka7, oA .int [(.int ia1), (.int ia2), (.int ia3), o0, o0, o0, o0, o0, o0, o0, o0, o0, o0, o0, o0, o0, o0, o0, o0, o0, o0, o0, o0, o0, o0, o0, o0, o0, o0, o0, o0, o0, o0, o0, o0, o0, o0, o0, o0, o0, o0, o0, o0, o0, o0, o0, o0, o0]) :: e9 :: (ka1, oO cn0 [(fk0, (.ref ka8)), (fk1, (.ref ka9)), (fk2, (.int (3 : Int32))), (fk3, (.int (2147483639 : Int32))), (fk4, (.int (1073741824 : Int32))), (fk5, (.ref ka7)), (fk6, (.ref ka10)), (fk7, .null), (fk8, (.int (0 : Int32))), (fk9, (.int (1 : Int32))), (fk10, (.ref ka5))]) :: (ka2, oA .int [(.int ia1), (.int ia2), (.int ia3)]) :: ds) = d)) := by
  refine oMet.of_body (plainFor_of_name pn_9) ?_
  intro p e s m below meth c T B hby hml hown hnm hret
  refine W_entry (ef_rm_a60 m ka1 ka2) ?_
  refine W_aloadN B (hb hby d27_0) (pc' := 1) rfl rfl rfl ?_
  refine W_privateS B (y := (⟨"com/example/tanglemark/tanglemark/datalog/Relation", "requireOpen", "()V"⟩ : MethodName)) hown (ow hw (i := 217) rfl) (ow hw (i := 218) rfl) (ow hw (i := 2) rfl) (ow hw (i := 219) rfl) (ow hw (i := 3) rfl) (ow hw (i := 220) rfl) (by decide) (a := ka1) (rm_a44 l Z a0 hw h0 ka1 _ _ _ _ _ _ _ _ _ _ ka8 ka9 ka7 ka10 ka5 _ ) (lenOf pd_0 rfl) (hb hby d27_1) (pc' := 4) rfl (argsL := []) (rest := []) rfl (by rw [hml]; rfl) (W := 0) (oLe rfl) (j := 10) rfl (by decide) (cells' := 0) rfl (slots' := 0) rfl ?_
  intro T v_ d_ q_ B
  obtain ⟨rfl, rfl⟩ := q_
  show oWin p e below Z h0 _ _ (T.setTop (mkF m 4 #[.val (.ref ka1), .val (.ref ka2)] []))
  refine W_aloadN B (hb hby d27_4) (pc' := 5) rfl rfl rfl ?_
  refine W_aloadN B (hb hby d27_5) (pc' := 6) rfl rfl rfl ?_
  refine W_getfield B hown (host := "") (Or.inl (ow hw (i := 200) rfl)) Via.refl (hb hby d27_6) (pc' := 9) rfl (j := 10) rfl (q := 10) rfl ?_
  intro T B
  refine W_aloadN B (hb hby d27_9) (pc' := 10) rfl rfl rfl ?_
  refine W_aloadN B (hb hby d27_10) (pc' := 11) rfl rfl rfl ?_
  refine W_getfield B hown (host := "") (Or.inl (ow hw (i := 198) rfl)) Via.refl (hb hby d27_11) (pc' := 14) rfl (j := 10) rfl (q := 9) rfl ?_
  intro T B
  refine W_virtual B (y := (⟨"com/example/tanglemark/tanglemark/datalog/Relation", "newest", "(Lcom/example/tanglemark/tanglemark/datalog/Relation$Chains;[II)I"⟩ : MethodName)) (z := (⟨"com/example/tanglemark/tanglemark/datalog/Relation", "newest", "(Lcom/example/tanglemark/tanglemark/datalog/Relation$Chains;[II)I"⟩ : MethodName)) hown (ow hw (i := 221) rfl) (ow hw (i := 222) rfl) (oNotFace B (ow hw (i := 224) rfl) rfl) (ow hw (i := 224) rfl) (ow hw (i := 223) rfl) (ow hw (i := 3) rfl) (ow hw (i := 225) rfl) (by decide) (a := ka1) (rm_a59 l Z a0 hw h0 ka1 ka5 ka2 _ _ _ ka3 ia1 ia2 ia3 ka4 ka6 _ _ ka7 _ ka8 ka9 ka10 _ hy0 hy1 hy2) (lenOf pd_19 rfl) (hb hby d27_14) (pc' := 17) rfl (argsL := [(.ref ka5), (.ref ka2), (.int (1 : Int32))]) (rest := []) rfl (by rw [hml]; rfl) (W := 0) (oLe rfl) (j := 10) rfl (by decide) (cells' := 0) rfl (slots' := 0) rfl ?_
  intro T v_ d_ q_ B
  obtain ⟨rfl, rfl⟩ := q_
  show oWin p e below Z h0 _ _ (T.setTop (mkF m 17 #[.val (.ref ka1), .val (.ref ka2)] [(.int (0 : Int32))]))
  refine W_retI B hret (hb hby d27_17) (by decide) ?_
  exact ⟨rfl, rfl⟩
theorem ef_rm_a61 (m : MethodId) (x0 : Addr) (x1 : Addr) : entryFrame m #[(.ref x0), (.ref x1)] 2 = mkF m 0 #[.val (.ref x0), .val (.ref x1)] [] := by first | (simp [entryFrame, mkF, argsToLocals, Value.category]; done) | rfl
set_option maxRecDepth 65536 in
set_option maxHeartbeats 40000000 in
theorem rm_a61 (l : Launch) (Z : State) (a0 : Array Value) (hw : ∀ d ∈ tables_1, d.before a0 Z = true) (h0 : Heap) {lo : Nat} (ka1 : Addr) (ka2 : Addr) (e0 : Addr × oD) (e1 : Addr × oD) (e2 : Addr × oD) (ka3 : Addr) (ia1 : Int32) (ia2 : Int32) (ia3 : Int32) (ka4 : Addr) (ka5 : Addr) (ka6 : Addr) (e6 : Addr × oD) (e7 : Addr × oD) (ka7 : Addr) (e9 : Addr × oD) (ka8 : Addr) (ka9 : Addr) (ka10 : Addr) (ds : oDs) (hy0 : (oHd0.set ((oH ia1 ia2 ia3) &&& (15 : Int32)).toNatClampNeg (.int (0 : Int32))).length.toInt32 = (16 : Int32)) (hy1 : (oHd0.set ((oH ia1 ia2 ia3) &&& (15 : Int32)).toNatClampNeg (.int (0 : Int32)))[((oH ia1 ia2 ia3) &&& (15 : Int32)).toNatClampNeg]? = some (.int (0 : Int32))) (hy2 : ¬ ((oH ia1 ia2 ia3) &&& (15 : Int32)) < (0 : Int32)) :
    oMet l Z h0 lo (⟨"com/example/tanglemark/tanglemark/datalog/Relation", "contains", "([I)Z"⟩ : MethodName) prog_45_method_13_code 2 (some .boolean) [] ({ frames := 4, cells := 0, slots := 0, locals := 60 } : Room) #[(.ref ka1), (.ref ka2)] (e0 :: e1 :: e2 :: (ka3, oA .int (oHd0.set ((oH ia1 ia2 ia3) &&& (15 : Int32)).toNatClampNeg (.int (0 : Int32)))) :: (ka4, oA .int [o0, (.int (1 : Int32)), (.int (2 : Int32))]) :: (ka5, oO cn3 [(fk18, (.ref ka4)), (fk19, (.ref ka3)), (fk20, (.ref ka6))]) :: e6 :: e7 :: (ka7, oA .int [(.int ia1), (.int ia2), (.int ia3), o0, o0, o0, o0, o0, o0, o0, o0, o0, o0, o0, o0, o0, o0, o0, o0, o0, o0, o0, o0, o0, o0, o0, o0, o0, o0, o0, o0, o0, o0, o0, o0, o0, o0, o0, o0, o0, o0, o0, o0, o0, o0, o0, o0, o0]) :: e9 :: (ka1, oO cn0 [(fk0, (.ref ka8)), (fk1, (.ref ka9)), (fk2, (.int (3 : Int32))), (fk3, (.int (2147483639 : Int32))), (fk4, (.int (1073741824 : Int32))), (fk5, (.ref ka7)), (fk6, (.ref ka10)), (fk7, .null), (fk8, (.int (0 : Int32))), (fk9, (.int (1 : Int32))), (fk10, (.ref ka5))]) :: (ka2, oA .int [(.int ia1), (.int ia2), (.int ia3)]) :: ds) (fun (v : Option Value) (d : oDs) => (v = some (.int (1 : Int32)) ∧ (e0 :: e1 :: e2 :: (ka3, oA .int (oHd0.set ((oH ia1 ia2 ia3) &&& (15 : Int32)).toNatClampNeg (.int (0 : Int32)))) :: (ka4, oA .int [o0, (.int (1 : Int32)), (.int (2 : Int32))]) :: (ka5, oO cn3 [(fk18, (.ref ka4)), (fk19, (.ref ka3)), (fk20, (.ref ka6))]) :: e6 :: e7 :: (ka7, oA .int [(.int ia1), (.int ia2), (.int ia3), o0, o0, o0, o0, o0, o0, o0, o0, o0, o0, o0, o0, o0, o0, o0, o0, o0, o0, o0, o0, o0, o0, o0, o0, o0, o0, o0, o0, o0, o0, o0, o0, o0, o0, o0, o0, o0, o0, o0, o0, o0, o0, o0, o0, o0]) :: e9 :: (ka1, oO cn0 [(fk0, (.ref ka8)), (fk1, (.ref ka9)), (fk2, (.int (3 : Int32))), (fk3, (.int (2147483639 : Int32))), (fk4, (.int (1073741824 : Int32))), (fk5, (.ref ka7)), (fk6, (.ref ka10)), (fk7, .null), (fk8, (.int (0 : Int32))), (fk9, (.int (1 : Int32))), (fk10, (.ref ka5))]) :: (ka2, oA .int [(.int ia1), (.int ia2), (.int ia3)]) :: ds) = d)) := by
  refine oMet.of_body (plainFor_of_name pn_9) ?_
  intro p e s m below meth c T B hby hml hown hnm hret
  refine W_entry (ef_rm_a61 m ka1 ka2) ?_
  refine W_aloadN B (hb hby d26_0) (pc' := 1) rfl rfl rfl ?_
  refine W_aloadN B (hb hby d26_1) (pc' := 2) rfl rfl rfl ?_
  refine W_virtual B (y := (⟨"com/example/tanglemark/tanglemark/datalog/Relation", "row", "([I)I"⟩ : MethodName)) (z := (⟨"com/example/tanglemark/tanglemark/datalog/Relation", "row", "([I)I"⟩ : MethodName)) hown (ow hw (i := 212) rfl) (ow hw (i := 213) rfl) (oNotFace B (ow hw (i := 215) rfl) rfl) (ow hw (i := 215) rfl) (ow hw (i := 214) rfl) (ow hw (i := 3) rfl) (ow hw (i := 216) rfl) (by decide) (a := ka1) (rm_a60 l Z a0 hw h0 ka1 ka2 _ _ _ ka3 ia1 ia2 ia3 ka4 ka5 ka6 _ _ ka7 _ ka8 ka9 ka10 _ hy0 hy1 hy2) (lenOf pd_17 rfl) (hb hby d26_2) (pc' := 5) rfl (argsL := [(.ref ka2)]) (rest := []) rfl (by rw [hml]; rfl) (W := 0) (oLe rfl) (j := 10) rfl (by decide) (cells' := 0) rfl (slots' := 0) rfl ?_
  intro T v_ d_ q_ B
  obtain ⟨rfl, rfl⟩ := q_
  show oWin p e below Z h0 _ _ (T.setTop (mkF m 5 #[.val (.ref ka1), .val (.ref ka2)] [(.int (0 : Int32))]))
  refine W_ifN B (hb hby d26_5) (pc' := 8) rfl (by decide) ?_
  refine W_iconst B (hb hby d26_8) (pc' := 9) rfl (z := (1 : Int32)) (by decide) ?_
  refine W_goto B (hb hby d26_9) (by decide) (pc' := 13) (by decide) ?_
  refine W_retN B hret (by simp) (hb hby d26_13) (by decide) ?_
  exact ⟨rfl, rfl⟩
theorem ef_rm_a62 (m : MethodId) (x0 : Addr) (x1 : Addr) : entryFrame m #[(.ref x0), (.ref x1)] 2 = mkF m 0 #[.val (.ref x0), .val (.ref x1)] [] := by first | (simp [entryFrame, mkF, argsToLocals, Value.category]; done) | rfl
set_option maxRecDepth 65536 in
set_option maxHeartbeats 40000000 in
theorem rm_a62 (l : Launch) (Z : State) (a0 : Array Value) (hw : ∀ d ∈ tables_1, d.before a0 Z = true) (h0 : Heap) {lo : Nat} (ka1 : Addr) (ka2 : Addr) (e0 : Addr × oD) (e1 : Addr × oD) (e2 : Addr × oD) (ka3 : Addr) (ia1 : Int32) (ia2 : Int32) (ia3 : Int32) (ka4 : Addr) (ka5 : Addr) (ka6 : Addr) (e6 : Addr × oD) (e7 : Addr × oD) (ka7 : Addr) (e9 : Addr × oD) (ka8 : Addr) (ka9 : Addr) (ka10 : Addr) (ds : oDs) (hy0 : (oHd0.set ((oH ia1 ia2 ia3) &&& (15 : Int32)).toNatClampNeg (.int (0 : Int32))).length.toInt32 = (16 : Int32)) (hy1 : (oHd0.set ((oH ia1 ia2 ia3) &&& (15 : Int32)).toNatClampNeg (.int (0 : Int32)))[((oH ia1 ia2 ia3) &&& (15 : Int32)).toNatClampNeg]? = some (.int (0 : Int32))) (hy2 : ¬ ((oH ia1 ia2 ia3) &&& (15 : Int32)) < (0 : Int32)) :
    oMet l Z h0 lo (⟨"com/example/tanglemark/tanglemark/datalog/Relation", "add", "([I)Z"⟩ : MethodName) prog_45_method_8_code 2 (some .boolean) [] ({ frames := 5, cells := 0, slots := 0, locals := 73 } : Room) #[(.ref ka1), (.ref ka2)] (e0 :: e1 :: e2 :: (ka3, oA .int (oHd0.set ((oH ia1 ia2 ia3) &&& (15 : Int32)).toNatClampNeg (.int (0 : Int32)))) :: (ka4, oA .int [o0, (.int (1 : Int32)), (.int (2 : Int32))]) :: (ka5, oO cn3 [(fk18, (.ref ka4)), (fk19, (.ref ka3)), (fk20, (.ref ka6))]) :: e6 :: e7 :: (ka7, oA .int [(.int ia1), (.int ia2), (.int ia3), o0, o0, o0, o0, o0, o0, o0, o0, o0, o0, o0, o0, o0, o0, o0, o0, o0, o0, o0, o0, o0, o0, o0, o0, o0, o0, o0, o0, o0, o0, o0, o0, o0, o0, o0, o0, o0, o0, o0, o0, o0, o0, o0, o0, o0]) :: e9 :: (ka1, oO cn0 [(fk0, (.ref ka8)), (fk1, (.ref ka9)), (fk2, (.int (3 : Int32))), (fk3, (.int (2147483639 : Int32))), (fk4, (.int (1073741824 : Int32))), (fk5, (.ref ka7)), (fk6, (.ref ka10)), (fk7, .null), (fk8, (.int (0 : Int32))), (fk9, (.int (1 : Int32))), (fk10, (.ref ka5))]) :: (ka2, oA .int [(.int ia1), (.int ia2), (.int ia3)]) :: ds) (fun (v : Option Value) (d : oDs) => (v = some (.int (0 : Int32)) ∧ (e0 :: e1 :: e2 :: (ka3, oA .int (oHd0.set ((oH ia1 ia2 ia3) &&& (15 : Int32)).toNatClampNeg (.int (0 : Int32)))) :: (ka4, oA .int [o0, (.int (1 : Int32)), (.int (2 : Int32))]) :: (ka5, oO cn3 [(fk18, (.ref ka4)), (fk19, (.ref ka3)), (fk20, (.ref ka6))]) :: e6 :: e7 :: (ka7, oA .int [(.int ia1), (.int ia2), (.int ia3), o0, o0, o0, o0, o0, o0, o0, o0, o0, o0, o0, o0, o0, o0, o0, o0, o0, o0, o0, o0, o0, o0, o0, o0, o0, o0, o0, o0, o0, o0, o0, o0, o0, o0, o0, o0, o0, o0, o0, o0, o0, o0, o0, o0, o0]) :: e9 :: (ka1, oO cn0 [(fk0, (.ref ka8)), (fk1, (.ref ka9)), (fk2, (.int (3 : Int32))), (fk3, (.int (2147483639 : Int32))), (fk4, (.int (1073741824 : Int32))), (fk5, (.ref ka7)), (fk6, (.ref ka10)), (fk7, .null), (fk8, (.int (0 : Int32))), (fk9, (.int (1 : Int32))), (fk10, (.ref ka5))]) :: (ka2, oA .int [(.int ia1), (.int ia2), (.int ia3)]) :: ds) = d)) := by
  refine oMet.of_body (plainFor_of_name pn_9) ?_
  intro p e s m below meth c T B hby hml hown hnm hret
  refine W_entry (ef_rm_a62 m ka1 ka2) ?_
  refine W_aloadN B (hb hby d25_0) (pc' := 1) rfl rfl rfl ?_
  refine W_aloadN B (hb hby d25_1) (pc' := 2) rfl rfl rfl ?_
  refine W_virtual B (y := (⟨"com/example/tanglemark/tanglemark/datalog/Relation", "contains", "([I)Z"⟩ : MethodName)) (z := (⟨"com/example/tanglemark/tanglemark/datalog/Relation", "contains", "([I)Z"⟩ : MethodName)) hown (ow hw (i := 207) rfl) (ow hw (i := 208) rfl) (oNotFace B (ow hw (i := 210) rfl) rfl) (ow hw (i := 210) rfl) (ow hw (i := 209) rfl) (ow hw (i := 3) rfl) (ow hw (i := 211) rfl) (by decide) (a := ka1) (rm_a61 l Z a0 hw h0 ka1 ka2 _ _ _ ka3 ia1 ia2 ia3 ka4 ka5 ka6 _ _ ka7 _ ka8 ka9 ka10 _ hy0 hy1 hy2) (lenOf pd_20 rfl) (hb hby d25_2) (pc' := 5) rfl (argsL := [(.ref ka2)]) (rest := []) rfl (by rw [hml]; rfl) (W := 0) (oLe rfl) (j := 10) rfl (by decide) (cells' := 0) rfl (slots' := 0) rfl ?_
  intro T v_ d_ q_ B
  obtain ⟨rfl, rfl⟩ := q_
  show oWin p e below Z h0 _ _ (T.setTop (mkF m 5 #[.val (.ref ka1), .val (.ref ka2)] [(.int (1 : Int32))]))
  refine W_ifN B (hb hby d25_5) (pc' := 8) rfl (by decide) ?_
  refine W_iconst B (hb hby d25_8) (pc' := 9) rfl (z := (0 : Int32)) (by decide) ?_
  refine W_retN B hret (by simp) (hb hby d25_9) (by decide) ?_
  exact ⟨rfl, rfl⟩
theorem d41_0 : decode prog_45_method_5_code 0 = .ok (.aload_n 0, 1) := by decide +kernel
theorem d41_1 : decode prog_45_method_5_code 1 = .ok (.getfield 92, 3) := by decide +kernel
theorem d41_4 : decode prog_45_method_5_code 4 = .ok (.ireturn, 1) := by decide +kernel
theorem ef_rm_a63 (m : MethodId) (x0 : Addr) : entryFrame m #[(.ref x0)] 1 = mkF m 0 #[.val (.ref x0)] [] := by first | (simp [entryFrame, mkF, argsToLocals, Value.category]; done) | rfl
set_option maxRecDepth 65536 in
set_option maxHeartbeats 40000000 in
theorem rm_a63 (l : Launch) (Z : State) (a0 : Array Value) (hw : ∀ d ∈ tables_1, d.before a0 Z = true) (h0 : Heap) {lo : Nat} (ka1 : Addr) (e0 : Addr × oD) (e1 : Addr × oD) (e2 : Addr × oD) (e3 : Addr × oD) (e4 : Addr × oD) (e5 : Addr × oD) (e6 : Addr × oD) (e7 : Addr × oD) (e8 : Addr × oD) (e9 : Addr × oD) (ka2 : Addr) (ka3 : Addr) (ka4 : Addr) (ka5 : Addr) (ka6 : Addr) (ds : oDs) :
    oMet l Z h0 lo (⟨"com/example/tanglemark/tanglemark/datalog/Relation", "size", "()I"⟩ : MethodName) prog_45_method_5_code 1 (some .int) [] ({ frames := 0, cells := 0, slots := 0, locals := 0 } : Room) #[(.ref ka1)] (e0 :: e1 :: e2 :: e3 :: e4 :: e5 :: e6 :: e7 :: e8 :: e9 :: (ka1, oO cn0 [(fk0, (.ref ka2)), (fk1, (.ref ka3)), (fk2, (.int (3 : Int32))), (fk3, (.int (2147483639 : Int32))), (fk4, (.int (1073741824 : Int32))), (fk5, (.ref ka4)), (fk6, (.ref ka5)), (fk7, .null), (fk8, (.int (0 : Int32))), (fk9, (.int (1 : Int32))), (fk10, (.ref ka6))]) :: ds) (fun (v : Option Value) (d : oDs) => (v = some (.int (1 : Int32)) ∧ (e0 :: e1 :: e2 :: e3 :: e4 :: e5 :: e6 :: e7 :: e8 :: e9 :: (ka1, oO cn0 [(fk0, (.ref ka2)), (fk1, (.ref ka3)), (fk2, (.int (3 : Int32))), (fk3, (.int (2147483639 : Int32))), (fk4, (.int (1073741824 : Int32))), (fk5, (.ref ka4)), (fk6, (.ref ka5)), (fk7, .null), (fk8, (.int (0 : Int32))), (fk9, (.int (1 : Int32))), (fk10, (.ref ka6))]) :: ds) = d)) := by
  refine oMet.of_body (plainFor_of_name pn_9) ?_
  intro p e s m below meth c T B hby hml hown hnm hret
  refine W_entry (ef_rm_a63 m ka1) ?_
  refine W_aloadN B (hb hby d41_0) (pc' := 1) rfl rfl rfl ?_
  refine W_getfield B hown (host := "") (Or.inl (ow hw (i := 198) rfl)) Via.refl (hb hby d41_1) (pc' := 4) rfl (j := 10) rfl (q := 9) rfl ?_
  intro T B
  refine W_retI B hret (hb hby d41_4) (by decide) ?_
  exact ⟨rfl, rfl⟩
theorem pd_25 : parseMethodDescriptor "()I" = some ⟨[], some .int⟩ := by decide +kernel
theorem ef_rm_a64 (m : MethodId) (x0 : Addr) (x1 : Int32) : entryFrame m #[(.ref x0), (.int x1)] 2 = mkF m 0 #[.val (.ref x0), .val (.int x1)] [] := by first | (simp [entryFrame, mkF, argsToLocals, Value.category]; done) | rfl
set_option maxRecDepth 65536 in
set_option maxHeartbeats 40000000 in
theorem rm_a64 (l : Launch) (Z : State) (a0 : Array Value) (hw : ∀ d ∈ tables_1, d.before a0 Z = true) (h0 : Heap) {lo : Nat} (ka1 : Addr) (ia1 : Int32) (ia2 : Int32) (ia3 : Int32) (e0 : Addr × oD) (e1 : Addr × oD) (e2 : Addr × oD) (ka2 : Addr) (ia4 : Int32) (ia5 : Int32) (ia6 : Int32) (e4 : Addr × oD) (ka3 : Addr) (ka4 : Addr) (ds : oDs) (hy0 : (oHd0.set ((oH ia4 ia5 ia6) &&& (15 : Int32)).toNatClampNeg (.int (0 : Int32))).length.toInt32 = (16 : Int32)) (hy1 : (oHd0.set ((oH ia4 ia5 ia6) &&& (15 : Int32)).toNatClampNeg (.int (0 : Int32)))[((oH ia1 ia2 ia3) &&& (15 : Int32)).toNatClampNeg]? = some (.int (0 : Int32))) (hy2 : ¬ ((oH ia1 ia2 ia3) &&& (15 : Int32)) < (0 : Int32)) :
    oMet l Z h0 lo (⟨"com/example/tanglemark/tanglemark/datalog/Relation", "first", "(Lcom/example/tanglemark/tanglemark/datalog/Relation$Chains;I)I"⟩ : MethodName) prog_45_method_28_code 2 (some .int) [] ({ frames := 0, cells := 0, slots := 0, locals := 0 } : Room) #[(.ref ka1), (.int (oH ia1 ia2 ia3))] (e0 :: e1 :: e2 :: (ka2, oA .int (oHd0.set ((oH ia4 ia5 ia6) &&& (15 : Int32)).toNatClampNeg (.int (0 : Int32)))) :: e4 :: (ka1, oO cn3 [(fk18, (.ref ka3)), (fk19, (.ref ka2)), (fk20, (.ref ka4))]) :: ds) (fun (v : Option Value) (d : oDs) => (v = some (.int (0 : Int32)) ∧ (e0 :: e1 :: e2 :: (ka2, oA .int (oHd0.set ((oH ia4 ia5 ia6) &&& (15 : Int32)).toNatClampNeg (.int (0 : Int32)))) :: e4 :: (ka1, oO cn3 [(fk18, (.ref ka3)), (fk19, (.ref ka2)), (fk20, (.ref ka4))]) :: ds) = d)) := by
  refine oMet.of_body (plainFor_of_name pn_9) ?_
  intro p e s m below meth c T B hby hml hown hnm hret
  refine W_entry (ef_rm_a64 m ka1 (oH ia1 ia2 ia3)) ?_
  refine W_aloadN B (hb hby d33_0) (pc' := 1) rfl rfl rfl ?_
  refine W_getfieldR B hown (ow hw (i := 239) rfl) (hb hby d33_1) (pc' := 4) rfl (j := 5) rfl (q := 1) rfl ?_
  refine W_iloadN B (hb hby d33_4) (pc' := 5) rfl rfl ?_
  refine W_aloadN B (hb hby d33_5) (pc' := 6) rfl rfl rfl ?_
  refine W_getfieldR B hown (ow hw (i := 239) rfl) (hb hby d33_6) (pc' := 9) rfl (j := 5) rfl (q := 1) rfl ?_
  refine W_arraylength B (hb hby d33_9) (pc' := 10) rfl (j := 3) rfl (z := (16 : Int32)) hy0 ?_
  refine W_iconst B (hb hby d33_10) (pc' := 11) rfl (z := (1 : Int32)) (by decide) ?_
  refine W_isub B (hb hby d33_11) (pc' := 12) rfl (z := (15 : Int32)) (by decide) ?_
  refine W_iand B (hb hby d33_12) (pc' := 13) rfl (z := ((oH ia1 ia2 ia3) &&& (15 : Int32))) rfl ?_
  refine W_iaload B (hb hby d33_13) (pc' := 14) rfl (i := 3) rfl hy2 (v := (.int (0 : Int32))) hy1 ?_
  refine W_retI B hret (hb hby d33_14) (by decide) ?_
  exact ⟨rfl, rfl⟩
theorem d40_37 : decode prog_45_method_17_code 37 = .ok (.iconst 0, 1) := by decide +kernel
theorem d40_38 : decode prog_45_method_17_code 38 = .ok (.ireturn, 1) := by decide +kernel
theorem ef_rm_a65 (m : MethodId) (x0 : Addr) (x2 : Addr) (x3 : Addr) : entryFrame m #[(.ref x0), (.int (0 : Int32)), (.ref x2), (.ref x3)] 6 = mkF m 0 #[.val (.ref x0), .val (.int (0 : Int32)), .val (.ref x2), .val (.ref x3), .unset, .unset] [] := by first | (simp [entryFrame, mkF, argsToLocals, Value.category]; done) | rfl
set_option maxRecDepth 65536 in
set_option maxHeartbeats 40000000 in
theorem rm_a65 (l : Launch) (Z : State) (a0 : Array Value) (hw : ∀ d ∈ tables_1, d.before a0 Z = true) (h0 : Heap) {lo : Nat} (ka1 : Addr) (ka2 : Addr) (ka3 : Addr) (e0 : Addr × oD) (e1 : Addr × oD) (e2 : Addr × oD) (e3 : Addr × oD) (e5 : Addr × oD) (e6 : Addr × oD) (e7 : Addr × oD) (ka4 : Addr) (ia1 : Int32) (ia2 : Int32) (ia3 : Int32) (e9 : Addr × oD) (ka5 : Addr) (ka6 : Addr) (ka7 : Addr) (ka8 : Addr) (e11 : Addr × oD) (e12 : Addr × oD) (ia4 : Int32) (ia5 : Int32) (ia6 : Int32) (ds : oDs) (hy0 : ¬ (ia1 = ia4 ∧ ia2 = ia5 ∧ ia3 = ia6)) :
    oMet l Z h0 lo (⟨"com/example/tanglemark/tanglemark/datalog/Relation", "hasKey", "(I[I[I)Z"⟩ : MethodName) prog_45_method_17_code 6 (some .boolean) [] ({ frames := 0, cells := 0, slots := 0, locals := 0 } : Room) #[(.ref ka1), (.int (0 : Int32)), (.ref ka2), (.ref ka3)] (e0 :: e1 :: e2 :: e3 :: (ka2, oA .int [o0, (.int (1 : Int32)), (.int (2 : Int32))]) :: e5 :: e6 :: e7 :: (ka4, oA .int [(.int ia1), (.int ia2), (.int ia3), o0, o0, o0, o0, o0, o0, o0, o0, o0, o0, o0, o0, o0, o0, o0, o0, o0, o0, o0, o0, o0, o0, o0, o0, o0, o0, o0, o0, o0, o0, o0, o0, o0, o0, o0, o0, o0, o0, o0, o0, o0, o0, o0, o0, o0]) :: e9 :: (ka1, oO cn0 [(fk0, (.ref ka5)), (fk1, (.ref ka6)), (fk2, (.int (3 : Int32))), (fk3, (.int (2147483639 : Int32))), (fk4, (.int (1073741824 : Int32))), (fk5, (.ref ka4)), (fk6, (.ref ka7)), (fk7, .null), (fk8, (.int (0 : Int32))), (fk9, (.int (1 : Int32))), (fk10, (.ref ka8))]) :: e11 :: e12 :: (ka3, oA .int [(.int ia4), (.int ia5), (.int ia6)]) :: ds) (fun (v : Option Value) (d : oDs) => (v = some (.int (0 : Int32)) ∧ (e0 :: e1 :: e2 :: e3 :: (ka2, oA .int [o0, (.int (1 : Int32)), (.int (2 : Int32))]) :: e5 :: e6 :: e7 :: (ka4, oA .int [(.int ia1), (.int ia2), (.int ia3), o0, o0, o0, o0, o0, o0, o0, o0, o0, o0, o0, o0, o0, o0, o0, o0, o0, o0, o0, o0, o0, o0, o0, o0, o0, o0, o0, o0, o0, o0, o0, o0, o0, o0, o0, o0, o0, o0, o0, o0, o0, o0, o0, o0, o0]) :: e9 :: (ka1, oO cn0 [(fk0, (.ref ka5)), (fk1, (.ref ka6)), (fk2, (.int (3 : Int32))), (fk3, (.int (2147483639 : Int32))), (fk4, (.int (1073741824 : Int32))), (fk5, (.ref ka4)), (fk6, (.ref ka7)), (fk7, .null), (fk8, (.int (0 : Int32))), (fk9, (.int (1 : Int32))), (fk10, (.ref ka8))]) :: e11 :: e12 :: (ka3, oA .int [(.int ia4), (.int ia5), (.int ia6)]) :: ds) = d)) := by
  refine oMet.of_body (plainFor_of_name pn_9) ?_
  intro p e s m below meth c T B hby hml hown hnm hret
  refine W_entry (ef_rm_a65 m ka1 ka2 ka3) ?_
  refine W_iloadN B (hb hby d40_0) (pc' := 1) rfl rfl ?_
  refine W_aloadN B (hb hby d40_1) (pc' := 2) rfl rfl rfl ?_
  refine W_getfield B hown (host := "") (Or.inl (ow hw (i := 50) rfl)) Via.refl (hb hby d40_2) (pc' := 5) rfl (j := 10) rfl (q := 2) rfl ?_
  intro T B
  refine W_imul B (hb hby d40_5) (pc' := 6) rfl (z := (0 : Int32)) (by decide) ?_
  refine W_istore B (hb hby d40_6) (pc' := 8) rfl (v := (0 : Int32)) rfl (ls' := #[.val (.ref ka1), .val (.int (0 : Int32)), .val (.ref ka2), .val (.ref ka3), .val (.int (0 : Int32)), .unset]) rfl ?_
  refine W_iconst B (hb hby d40_8) (pc' := 9) rfl (z := (0 : Int32)) (by decide) ?_
  refine W_istore B (hb hby d40_9) (pc' := 11) rfl (v := (0 : Int32)) rfl (ls' := #[.val (.ref ka1), .val (.int (0 : Int32)), .val (.ref ka2), .val (.ref ka3), .val (.int (0 : Int32)), .val (.int (0 : Int32))]) rfl ?_
  refine W_iload B (hb hby d40_11) (pc' := 13) rfl rfl ?_
  refine W_aloadN B (hb hby d40_13) (pc' := 14) rfl rfl rfl ?_
  refine W_arraylength B (hb hby d40_14) (pc' := 15) rfl (j := 4) rfl (z := (3 : Int32)) rfl ?_
  refine W_icmpN B (hb hby d40_15) (pc' := 18) rfl (by decide) ?_
  refine W_aloadN B (hb hby d40_18) (pc' := 19) rfl rfl rfl ?_
  refine W_getfield B hown (host := "") (Or.inl (ow hw (i := 69) rfl)) Via.refl (hb hby d40_19) (pc' := 22) rfl (j := 10) rfl (q := 5) rfl ?_
  intro T B
  refine W_iload B (hb hby d40_22) (pc' := 24) rfl rfl ?_
  refine W_aloadN B (hb hby d40_24) (pc' := 25) rfl rfl rfl ?_
  refine W_iload B (hb hby d40_25) (pc' := 27) rfl rfl ?_
  refine W_iaload B (hb hby d40_27) (pc' := 28) rfl (i := 4) rfl (by decide) (v := (.int (0 : Int32))) rfl ?_
  refine W_iadd B (hb hby d40_28) (pc' := 29) rfl (z := (0 : Int32)) (by decide) ?_
  refine W_iaload B (hb hby d40_29) (pc' := 30) rfl (i := 8) rfl (by decide) (v := (.int ia1)) rfl ?_
  refine W_aloadN B (hb hby d40_30) (pc' := 31) rfl rfl rfl ?_
  refine W_iload B (hb hby d40_31) (pc' := 33) rfl rfl ?_
  refine W_iaload B (hb hby d40_33) (pc' := 34) rfl (i := 13) rfl (by decide) (v := (.int ia4)) rfl ?_
  refine W_icmp_eq B (hb hby d40_34) (by decide) (pt := 39) (by decide) (pc' := 37) rfl (fun (c164 : ia1 = ia4) => ?_) (fun (c164 : ¬ ia1 = ia4) => ?_)
  · refine W_iinc B (hb hby d40_39) (pc' := 42) rfl rfl (z := (1 : Int32)) (by decide) (ls' := #[.val (.ref ka1), .val (.int (0 : Int32)), .val (.ref ka2), .val (.ref ka3), .val (.int (0 : Int32)), .val (.int (1 : Int32))]) rfl ?_
    refine W_goto B (hb hby d40_42) (by decide) (pc' := 11) (by decide) ?_
    refine W_iload B (hb hby d40_11) (pc' := 13) rfl rfl ?_
    refine W_aloadN B (hb hby d40_13) (pc' := 14) rfl rfl rfl ?_
    refine W_arraylength B (hb hby d40_14) (pc' := 15) rfl (j := 4) rfl (z := (3 : Int32)) rfl ?_
    refine W_icmpN B (hb hby d40_15) (pc' := 18) rfl (by decide) ?_
    refine W_aloadN B (hb hby d40_18) (pc' := 19) rfl rfl rfl ?_
    refine W_getfield B hown (host := "") (Or.inl (ow hw (i := 69) rfl)) Via.refl (hb hby d40_19) (pc' := 22) rfl (j := 10) rfl (q := 5) rfl ?_
    intro T B
    refine W_iload B (hb hby d40_22) (pc' := 24) rfl rfl ?_
    refine W_aloadN B (hb hby d40_24) (pc' := 25) rfl rfl rfl ?_
    refine W_iload B (hb hby d40_25) (pc' := 27) rfl rfl ?_
    refine W_iaload B (hb hby d40_27) (pc' := 28) rfl (i := 4) rfl (by decide) (v := (.int (1 : Int32))) rfl ?_
    refine W_iadd B (hb hby d40_28) (pc' := 29) rfl (z := (1 : Int32)) (by decide) ?_
    refine W_iaload B (hb hby d40_29) (pc' := 30) rfl (i := 8) rfl (by decide) (v := (.int ia2)) rfl ?_
    refine W_aloadN B (hb hby d40_30) (pc' := 31) rfl rfl rfl ?_
    refine W_iload B (hb hby d40_31) (pc' := 33) rfl rfl ?_
    refine W_iaload B (hb hby d40_33) (pc' := 34) rfl (i := 13) rfl (by decide) (v := (.int ia5)) rfl ?_
    refine W_icmp_eq B (hb hby d40_34) (by decide) (pt := 39) (by decide) (pc' := 37) rfl (fun (c165 : ia2 = ia5) => ?_) (fun (c165 : ¬ ia2 = ia5) => ?_)
    · refine W_iinc B (hb hby d40_39) (pc' := 42) rfl rfl (z := (2 : Int32)) (by decide) (ls' := #[.val (.ref ka1), .val (.int (0 : Int32)), .val (.ref ka2), .val (.ref ka3), .val (.int (0 : Int32)), .val (.int (2 : Int32))]) rfl ?_
      refine W_goto B (hb hby d40_42) (by decide) (pc' := 11) (by decide) ?_
      refine W_iload B (hb hby d40_11) (pc' := 13) rfl rfl ?_
      refine W_aloadN B (hb hby d40_13) (pc' := 14) rfl rfl rfl ?_
      refine W_arraylength B (hb hby d40_14) (pc' := 15) rfl (j := 4) rfl (z := (3 : Int32)) rfl ?_
      refine W_icmpN B (hb hby d40_15) (pc' := 18) rfl (by decide) ?_
      refine W_aloadN B (hb hby d40_18) (pc' := 19) rfl rfl rfl ?_
      refine W_getfield B hown (host := "") (Or.inl (ow hw (i := 69) rfl)) Via.refl (hb hby d40_19) (pc' := 22) rfl (j := 10) rfl (q := 5) rfl ?_
      intro T B
      refine W_iload B (hb hby d40_22) (pc' := 24) rfl rfl ?_
      refine W_aloadN B (hb hby d40_24) (pc' := 25) rfl rfl rfl ?_
      refine W_iload B (hb hby d40_25) (pc' := 27) rfl rfl ?_
      refine W_iaload B (hb hby d40_27) (pc' := 28) rfl (i := 4) rfl (by decide) (v := (.int (2 : Int32))) rfl ?_
      refine W_iadd B (hb hby d40_28) (pc' := 29) rfl (z := (2 : Int32)) (by decide) ?_
      refine W_iaload B (hb hby d40_29) (pc' := 30) rfl (i := 8) rfl (by decide) (v := (.int ia3)) rfl ?_
      refine W_aloadN B (hb hby d40_30) (pc' := 31) rfl rfl rfl ?_
      refine W_iload B (hb hby d40_31) (pc' := 33) rfl rfl ?_
      refine W_iaload B (hb hby d40_33) (pc' := 34) rfl (i := 13) rfl (by decide) (v := (.int ia6)) rfl ?_
      refine W_icmpN B (hb hby d40_34) (pc' := 37) rfl (feq (fun q => hy0 ⟨c164, c165, q⟩)).1 ?_
      refine W_iconst B (hb hby d40_37) (pc' := 38) rfl (z := (0 : Int32)) (by decide) ?_
      refine W_retN B hret (by simp) (hb hby d40_38) (by decide) ?_
      exact ⟨rfl, rfl⟩
    refine W_iconst B (hb hby d40_37) (pc' := 38) rfl (z := (0 : Int32)) (by decide) ?_
    refine W_retN B hret (by simp) (hb hby d40_38) (by decide) ?_
    exact ⟨rfl, rfl⟩
  refine W_iconst B (hb hby d40_37) (pc' := 38) rfl (z := (0 : Int32)) (by decide) ?_
  refine W_retN B hret (by simp) (hb hby d40_38) (by decide) ?_
  exact ⟨rfl, rfl⟩
theorem d29_38 : decode prog_45_method_15_code 38 = .ok (.aload_n 1, 1) := by decide +kernel
theorem d29_39 : decode prog_45_method_15_code 39 = .ok (.iload 4, 2) := by decide +kernel
theorem d29_41 : decode prog_45_method_15_code 41 = .ok (.invokestatic 200, 3) := by decide +kernel
theorem d42_0 : decode prog_45_method_29_code 0 = .ok (.aload_n 0, 1) := by decide +kernel
theorem d42_1 : decode prog_45_method_29_code 1 = .ok (.getfield 292, 3) := by decide +kernel
theorem d42_4 : decode prog_45_method_29_code 4 = .ok (.iload_n 1, 1) := by decide +kernel
theorem d42_5 : decode prog_45_method_29_code 5 = .ok (.iaload, 1) := by decide +kernel
theorem d42_6 : decode prog_45_method_29_code 6 = .ok (.ireturn, 1) := by decide +kernel
theorem ef_rm_a66 (m : MethodId) (x0 : Addr) : entryFrame m #[(.ref x0), (.int (0 : Int32))] 2 = mkF m 0 #[.val (.ref x0), .val (.int (0 : Int32))] [] := by first | (simp [entryFrame, mkF, argsToLocals, Value.category]; done) | rfl
set_option maxRecDepth 65536 in
set_option maxHeartbeats 40000000 in
theorem rm_a66 (l : Launch) (Z : State) (a0 : Array Value) (hw : ∀ d ∈ tables_1, d.before a0 Z = true) (h0 : Heap) {lo : Nat} (ka1 : Addr) (e0 : Addr × oD) (e1 : Addr × oD) (ka2 : Addr) (e3 : Addr × oD) (e4 : Addr × oD) (ka3 : Addr) (ka4 : Addr) (ds : oDs) :
    oMet l Z h0 lo (⟨"com/example/tanglemark/tanglemark/datalog/Relation", "next", "(Lcom/example/tanglemark/tanglemark/datalog/Relation$Chains;I)I"⟩ : MethodName) prog_45_method_29_code 2 (some .int) [] ({ frames := 0, cells := 0, slots := 0, locals := 0 } : Room) #[(.ref ka1), (.int (0 : Int32))] (e0 :: e1 :: (ka2, oA .int [(.int (-1 : Int32)), o0, o0, o0, o0, o0, o0, o0, o0, o0, o0, o0, o0, o0, o0, o0]) :: e3 :: e4 :: (ka1, oO cn3 [(fk18, (.ref ka3)), (fk19, (.ref ka4)), (fk20, (.ref ka2))]) :: ds) (fun (v : Option Value) (d : oDs) => (v = some (.int (-1 : Int32)) ∧ (e0 :: e1 :: (ka2, oA .int [(.int (-1 : Int32)), o0, o0, o0, o0, o0, o0, o0, o0, o0, o0, o0, o0, o0, o0, o0]) :: e3 :: e4 :: (ka1, oO cn3 [(fk18, (.ref ka3)), (fk19, (.ref ka4)), (fk20, (.ref ka2))]) :: ds) = d)) := by
  refine oMet.of_body (plainFor_of_name pn_9) ?_
  intro p e s m below meth c T B hby hml hown hnm hret
  refine W_entry (ef_rm_a66 m ka1) ?_
  refine W_aloadN B (hb hby d42_0) (pc' := 1) rfl rfl rfl ?_
  refine W_getfieldR B hown (ow hw (i := 269) rfl) (hb hby d42_1) (pc' := 4) rfl (j := 5) rfl (q := 2) rfl ?_
  refine W_iloadN B (hb hby d42_4) (pc' := 5) rfl rfl ?_
  refine W_iaload B (hb hby d42_5) (pc' := 6) rfl (i := 2) rfl (by decide) (v := (.int (-1 : Int32))) rfl ?_
  refine W_retI B hret (hb hby d42_6) (by decide) ?_
  exact ⟨rfl, rfl⟩
theorem d29_44 : decode prog_45_method_15_code 44 = .ok (.istore 4, 2) := by decide +kernel
theorem d29_46 : decode prog_45_method_15_code 46 = .ok (.goto (-36), 3) := by decide +kernel
theorem ef_rm_a67 (m : MethodId) (x0 : Addr) (x1 : Addr) (x2 : Addr) : entryFrame m #[(.ref x0), (.ref x1), (.ref x2), (.int (1 : Int32))] 5 = mkF m 0 #[.val (.ref x0), .val (.ref x1), .val (.ref x2), .val (.int (1 : Int32)), .unset] [] := by first | (simp [entryFrame, mkF, argsToLocals, Value.category]; done) | rfl
set_option maxRecDepth 65536 in
set_option maxHeartbeats 40000000 in
theorem rm_a67 (l : Launch) (Z : State) (a0 : Array Value) (hw : ∀ d ∈ tables_1, d.before a0 Z = true) (h0 : Heap) {lo : Nat} (ka1 : Addr) (ka2 : Addr) (ka3 : Addr) (e0 : Addr × oD) (e1 : Addr × oD) (ka4 : Addr) (ka5 : Addr) (ia1 : Int32) (ia2 : Int32) (ia3 : Int32) (ka6 : Addr) (e6 : Addr × oD) (e7 : Addr × oD) (ka7 : Addr) (e9 : Addr × oD) (ka8 : Addr) (ka9 : Addr) (ka10 : Addr) (e11 : Addr × oD) (e12 : Addr × oD) (ia4 : Int32) (ia5 : Int32) (ia6 : Int32) (ds : oDs) (hy0 : (oHd0.set ((oH ia1 ia2 ia3) &&& (15 : Int32)).toNatClampNeg (.int (0 : Int32))).length.toInt32 = (16 : Int32)) (hy1 : (oHd0.set ((oH ia1 ia2 ia3) &&& (15 : Int32)).toNatClampNeg (.int (0 : Int32)))[((oH ia4 ia5 ia6) &&& (15 : Int32)).toNatClampNeg]? = some (.int (0 : Int32))) (hy2 : ¬ ((oH ia4 ia5 ia6) &&& (15 : Int32)) < (0 : Int32)) (hy3 : ¬ (ia1 = ia4 ∧ ia2 = ia5 ∧ ia3 = ia6)) :
    oMet l Z h0 lo (⟨"com/example/tanglemark/tanglemark/datalog/Relation", "newest", "(Lcom/example/tanglemark/tanglemark/datalog/Relation$Chains;[II)I"⟩ : MethodName) prog_45_method_15_code 5 (some .int) [] ({ frames := 2, cells := 0, slots := 0, locals := 31 } : Room) #[(.ref ka1), (.ref ka2), (.ref ka3), (.int (1 : Int32))] (e0 :: e1 :: (ka4, oA .int [(.int (-1 : Int32)), o0, o0, o0, o0, o0, o0, o0, o0, o0, o0, o0, o0, o0, o0, o0]) :: (ka5, oA .int (oHd0.set ((oH ia1 ia2 ia3) &&& (15 : Int32)).toNatClampNeg (.int (0 : Int32)))) :: (ka6, oA .int [o0, (.int (1 : Int32)), (.int (2 : Int32))]) :: (ka2, oO cn3 [(fk18, (.ref ka6)), (fk19, (.ref ka5)), (fk20, (.ref ka4))]) :: e6 :: e7 :: (ka7, oA .int [(.int ia1), (.int ia2), (.int ia3), o0, o0, o0, o0, o0, o0, o0, o0, o0, o0, o0, o0, o0, o0, o0, o0, o0, o0, o0, o0, o0, o0, o0, o0, o0, o0, o0, o0, o0, o0, o0, o0, o0, o0, o0, o0, o0, o0, o0, o0, o0, o0, o0, o0, o0]) :: e9 :: (ka1, oO cn0 [(fk0, (.ref ka8)), (fk1, (.ref ka9)), (fk2, (.int (3 : Int32))), (fk3, (.int (2147483639 : Int32))), (fk4, (.int (1073741824 : Int32))), (fk5, (.ref ka7)), (fk6, (.ref ka10)), (fk7, .null), (fk8, (.int (0 : Int32))), (fk9, (.int (1 : Int32))), (fk10, (.ref ka2))]) :: e11 :: e12 :: (ka3, oA .int [(.int ia4), (.int ia5), (.int ia6)]) :: ds) (fun (v : Option Value) (d : oDs) => (v = some (.int (-1 : Int32)) ∧ (e0 :: e1 :: (ka4, oA .int [(.int (-1 : Int32)), o0, o0, o0, o0, o0, o0, o0, o0, o0, o0, o0, o0, o0, o0, o0]) :: (ka5, oA .int (oHd0.set ((oH ia1 ia2 ia3) &&& (15 : Int32)).toNatClampNeg (.int (0 : Int32)))) :: (ka6, oA .int [o0, (.int (1 : Int32)), (.int (2 : Int32))]) :: (ka2, oO cn3 [(fk18, (.ref ka6)), (fk19, (.ref ka5)), (fk20, (.ref ka4))]) :: e6 :: e7 :: (ka7, oA .int [(.int ia1), (.int ia2), (.int ia3), o0, o0, o0, o0, o0, o0, o0, o0, o0, o0, o0, o0, o0, o0, o0, o0, o0, o0, o0, o0, o0, o0, o0, o0, o0, o0, o0, o0, o0, o0, o0, o0, o0, o0, o0, o0, o0, o0, o0, o0, o0, o0, o0, o0, o0]) :: e9 :: (ka1, oO cn0 [(fk0, (.ref ka8)), (fk1, (.ref ka9)), (fk2, (.int (3 : Int32))), (fk3, (.int (2147483639 : Int32))), (fk4, (.int (1073741824 : Int32))), (fk5, (.ref ka7)), (fk6, (.ref ka10)), (fk7, .null), (fk8, (.int (0 : Int32))), (fk9, (.int (1 : Int32))), (fk10, (.ref ka2))]) :: e11 :: e12 :: (ka3, oA .int [(.int ia4), (.int ia5), (.int ia6)]) :: ds) = d)) := by
  refine oMet.of_body (plainFor_of_name pn_9) ?_
  intro p e s m below meth c T B hby hml hown hnm hret
  refine W_entry (ef_rm_a67 m ka1 ka2 ka3) ?_
  refine W_aloadN B (hb hby d29_0) (pc' := 1) rfl rfl rfl ?_
  refine W_aloadN B (hb hby d29_1) (pc' := 2) rfl rfl rfl ?_
  refine W_callS B (y := (⟨"com/example/tanglemark/tanglemark/datalog/Relation", "hash", "([I)I"⟩ : MethodName)) hown (ow hw (i := 226) rfl) (ow hw (i := 227) rfl) (ow hw (i := 3) rfl) (ow hw (i := 228) rfl) (by decide) (rm_a28 l Z a0 hw h0 ka3 _ _ _ _ _ _ _ _ _ _ _ _ _ ia4 ia5 ia6 _ ) (lenOf pd_17 rfl) (hb hby d29_2) (pc' := 5) rfl (argsL := [(.ref ka3)]) (rest := [(.ref ka2)]) rfl (by rw [hml]; rfl) (W := 1) (oLe rfl) (by decide) (cells' := 0) rfl (slots' := 0) rfl ?_
  intro T v_ d_ q_ B
  obtain ⟨rfl, rfl⟩ := q_
  show oWin p e below Z h0 _ _ (T.setTop (mkF m 5 #[.val (.ref ka1), .val (.ref ka2), .val (.ref ka3), .val (.int (1 : Int32)), .unset] [(.int (oH ia4 ia5 ia6)), (.ref ka2)]))
  refine W_callS B (y := (⟨"com/example/tanglemark/tanglemark/datalog/Relation", "first", "(Lcom/example/tanglemark/tanglemark/datalog/Relation$Chains;I)I"⟩ : MethodName)) hown (ow hw (i := 236) rfl) (ow hw (i := 237) rfl) (ow hw (i := 3) rfl) (ow hw (i := 238) rfl) (by decide) (rm_a64 l Z a0 hw h0 ka2 ia4 ia5 ia6 _ _ _ ka5 ia1 ia2 ia3 _ ka6 ka4 _ hy0 hy1 hy2) (lenOf pd_18 rfl) (hb hby d29_5) (pc' := 8) rfl (argsL := [(.ref ka2), (.int (oH ia4 ia5 ia6))]) (rest := []) rfl (by rw [hml]; rfl) (W := 0) (oLe rfl) (by decide) (cells' := 0) rfl (slots' := 0) rfl ?_
  intro T v_ d_ q_ B
  obtain ⟨rfl, rfl⟩ := q_
  show oWin p e below Z h0 _ _ (T.setTop (mkF m 8 #[.val (.ref ka1), .val (.ref ka2), .val (.ref ka3), .val (.int (1 : Int32)), .unset] [(.int (0 : Int32))]))
  refine W_istore B (hb hby d29_8) (pc' := 10) rfl (v := (0 : Int32)) rfl (ls' := #[.val (.ref ka1), .val (.ref ka2), .val (.ref ka3), .val (.int (1 : Int32)), .val (.int (0 : Int32))]) rfl ?_
  refine W_iload B (hb hby d29_10) (pc' := 12) rfl rfl ?_
  refine W_ifN B (hb hby d29_12) (pc' := 15) rfl (by decide) ?_
  refine W_iload B (hb hby d29_15) (pc' := 17) rfl rfl ?_
  refine W_iloadN B (hb hby d29_17) (pc' := 18) rfl rfl ?_
  refine W_icmpN B (hb hby d29_18) (pc' := 21) rfl (by decide) ?_
  refine W_aloadN B (hb hby d29_21) (pc' := 22) rfl rfl rfl ?_
  refine W_iload B (hb hby d29_22) (pc' := 24) rfl rfl ?_
  refine W_aloadN B (hb hby d29_24) (pc' := 25) rfl rfl rfl ?_
  refine W_getfield B hown (host := "") (Or.inl (ow hw (i := 274) rfl)) (Via.of (ow hw (i := 275) rfl)) (hb hby d29_25) (pc' := 28) rfl (j := 5) rfl (q := 0) rfl ?_
  intro T B
  refine W_aloadN B (hb hby d29_28) (pc' := 29) rfl rfl rfl ?_
  refine W_privateS B (y := (⟨"com/example/tanglemark/tanglemark/datalog/Relation", "hasKey", "(I[I[I)Z"⟩ : MethodName)) hown (ow hw (i := 280) rfl) (ow hw (i := 281) rfl) (ow hw (i := 2) rfl) (ow hw (i := 282) rfl) (ow hw (i := 3) rfl) (ow hw (i := 283) rfl) (by decide) (a := ka1) (rm_a65 l Z a0 hw h0 ka1 ka6 ka3 _ _ _ _ _ _ _ ka7 ia1 ia2 ia3 _ ka8 ka9 ka10 ka2 _ _ ia4 ia5 ia6 _ hy3) (lenOf pd_24 rfl) (hb hby d29_29) (pc' := 32) rfl (argsL := [(.int (0 : Int32)), (.ref ka6), (.ref ka3)]) (rest := []) rfl (by rw [hml]; rfl) (W := 0) (oLe rfl) (j := 10) rfl (by decide) (cells' := 0) rfl (slots' := 0) rfl ?_
  intro T v_ d_ q_ B
  obtain ⟨rfl, rfl⟩ := q_
  show oWin p e below Z h0 _ _ (T.setTop (mkF m 32 #[.val (.ref ka1), .val (.ref ka2), .val (.ref ka3), .val (.int (1 : Int32)), .val (.int (0 : Int32))] [(.int (0 : Int32))]))
  refine W_ifY B (hb hby d29_32) (by decide) (pc' := 38) (by decide) (by decide) ?_
  refine W_aloadN B (hb hby d29_38) (pc' := 39) rfl rfl rfl ?_
  refine W_iload B (hb hby d29_39) (pc' := 41) rfl rfl ?_
  refine W_callS B (y := (⟨"com/example/tanglemark/tanglemark/datalog/Relation", "next", "(Lcom/example/tanglemark/tanglemark/datalog/Relation$Chains;I)I"⟩ : MethodName)) hown (ow hw (i := 289) rfl) (ow hw (i := 290) rfl) (ow hw (i := 3) rfl) (ow hw (i := 291) rfl) (by decide) (rm_a66 l Z a0 hw h0 ka2 _ _ ka4 _ _ ka6 ka5 _ ) (lenOf pd_18 rfl) (hb hby d29_41) (pc' := 44) rfl (argsL := [(.ref ka2), (.int (0 : Int32))]) (rest := []) rfl (by rw [hml]; rfl) (W := 0) (oLe rfl) (by decide) (cells' := 0) rfl (slots' := 0) rfl ?_
  intro T v_ d_ q_ B
  obtain ⟨rfl, rfl⟩ := q_
  show oWin p e below Z h0 _ _ (T.setTop (mkF m 44 #[.val (.ref ka1), .val (.ref ka2), .val (.ref ka3), .val (.int (1 : Int32)), .val (.int (0 : Int32))] [(.int (-1 : Int32))]))
  refine W_istore B (hb hby d29_44) (pc' := 46) rfl (v := (-1 : Int32)) rfl (ls' := #[.val (.ref ka1), .val (.ref ka2), .val (.ref ka3), .val (.int (1 : Int32)), .val (.int (-1 : Int32))]) rfl ?_
  refine W_goto B (hb hby d29_46) (by decide) (pc' := 10) (by decide) ?_
  refine W_iload B (hb hby d29_10) (pc' := 12) rfl rfl ?_
  refine W_ifY B (hb hby d29_12) (by decide) (pc' := 49) (by decide) (by decide) ?_
  refine W_iconst B (hb hby d29_49) (pc' := 50) rfl (z := (-1 : Int32)) (by decide) ?_
  refine W_retI B hret (hb hby d29_50) (by decide) ?_
  exact ⟨rfl, rfl⟩
theorem ef_rm_a68 (m : MethodId) (x0 : Addr) (x1 : Addr) : entryFrame m #[(.ref x0), (.ref x1)] 2 = mkF m 0 #[.val (.ref x0), .val (.ref x1)] [] := by first | (simp [entryFrame, mkF, argsToLocals, Value.category]; done) | rfl
set_option maxRecDepth 65536 in
set_option maxHeartbeats 40000000 in
theorem rm_a68 (l : Launch) (Z : State) (a0 : Array Value) (hw : ∀ d ∈ tables_1, d.before a0 Z = true) (h0 : Heap) {lo : Nat} (ka1 : Addr) (ka2 : Addr) (e0 : Addr × oD) (e1 : Addr × oD) (ka3 : Addr) (ka4 : Addr) (ia1 : Int32) (ia2 : Int32) (ia3 : Int32) (ka5 : Addr) (ka6 : Addr) (e6 : Addr × oD) (e7 : Addr × oD) (ka7 : Addr) (e9 : Addr × oD) (ka8 : Addr) (ka9 : Addr) (ka10 : Addr) (e11 : Addr × oD) (e12 : Addr × oD) (ia4 : Int32) (ia5 : Int32) (ia6 : Int32) (ds : oDs) (hy0 : (oHd0.set ((oH ia1 ia2 ia3) &&& (15 : Int32)).toNatClampNeg (.int (0 : Int32))).length.toInt32 = (16 : Int32)) (hy1 : (oHd0.set ((oH ia1 ia2 ia3) &&& (15 : Int32)).toNatClampNeg (.int (0 : Int32)))[((oH ia4 ia5 ia6) &&& (15 : Int32)).toNatClampNeg]? = some (.int (0 : Int32))) (hy2 : ¬ ((oH ia4 ia5 ia6) &&& (15 : Int32)) < (0 : Int32)) (hy3 : ¬ (ia1 = ia4 ∧ ia2 = ia5 ∧ ia3 = ia6)) :
    oMet l Z h0 lo (⟨"com/example/tanglemark/tanglemark/datalog/Relation", "row", "([I)I"⟩ : MethodName) prog_45_method_14_code 2 (some .int) [] ({ frames := 3, cells := 0, slots := 0, locals := 47 } : Room) #[(.ref ka1), (.ref ka2)] (e0 :: e1 :: (ka3, oA .int [(.int (-1 : Int32)), o0, o0, o0, o0, o0, o0, o0, o0, o0, o0, o0, o0, o0, o0, o0]) :: (ka4, oA .int (oHd0.set ((oH ia1 ia2 ia3) &&& (15 : Int32)).toNatClampNeg (.int (0 : Int32)))) :: (ka5, oA .int [o0, (.int (1 : Int32)), (.int (2 : Int32))]) :: (ka6, oO cn3 [(fk18, (.ref ka5)), (fk19, (.ref ka4)), (fk20, (.ref ka3))]) :: e6 :: e7 :: (ka7, oA .int [(.int ia1), (.int ia2), (.int ia3), o0, o0, o0, o0, o0, o0, o0, o0, o0, o0, o0, o0, o0, o0, o0, o0, o0, o0, o0, o0, o0, o0, o0, o0, o0, o0, o0, o0, o0, o0, o0, o0, o0, o0, o0, o0, o0, o0, o0, o0, o0, o0, o0, o0, o0]) :: e9 :: (ka1, oO cn0 [(fk0, (.ref ka8)), (fk1, (.ref ka9)), (fk2, (.int (3 : Int32))), (fk3, (.int (2147483639 : Int32))), (fk4, (.int (1073741824 : Int32))), (fk5, (.ref ka7)), (fk6, (.ref ka10)), (fk7, .null), (fk8, (.int (0 : Int32))), (fk9, (.int (1 : Int32))), (fk10, (.ref ka6))]) :: e11 :: e12 :: (ka2, oA .int [(.int ia4), (.int ia5), (.int ia6)]) :: ds) (fun (v : Option Value) (d : oDs) => (v = some (.int (-1 : Int32)) ∧ (e0 :: e1 :: (ka3, oA .int [(.int (-1 : Int32)), o0, o0, o0, o0, o0, o0, o0, o0, o0, o0, o0, o0, o0, o0, o0]) :: (ka4, oA .int (oHd0.set ((oH ia1 ia2 ia3) &&& (15 : Int32)).toNatClampNeg (.int (0 : Int32)))) :: (ka5, oA .int [o0, (.int (1 : Int32)), (.int (2 : Int32))]) :: (ka6, oO cn3 [(fk18, (.ref ka5)), (fk19, (.ref ka4)), (fk20, (.ref ka3))]) :: e6 :: e7 :: (ka7, oA .int [(.int ia1), (.int ia2), (.int ia3), o0, o0, o0, o0, o0, o0, o0, o0, o0, o0, o0, o0, o0, o0, o0, o0, o0, o0, o0, o0, o0, o0, o0, o0, o0, o0, o0, o0, o0, o0, o0, o0, o0, o0, o0, o0, o0, o0, o0, o0, o0, o0, o0, o0, o0]) :: e9 :: (ka1, oO cn0 [(fk0, (.ref ka8)), (fk1, (.ref ka9)), (fk2, (.int (3 : Int32))), (fk3, (.int (2147483639 : Int32))), (fk4, (.int (1073741824 : Int32))), (fk5, (.ref ka7)), (fk6, (.ref ka10)), (fk7, .null), (fk8, (.int (0 : Int32))), (fk9, (.int (1 : Int32))), (fk10, (.ref ka6))]) :: e11 :: e12 :: (ka2, oA .int [(.int ia4), (.int ia5), (.int ia6)]) :: ds) = d)) := by
  refine oMet.of_body (plainFor_of_name pn_9) ?_
  intro p e s m below meth c T B hby hml hown hnm hret
  refine W_entry (ef_rm_a68 m ka1 ka2) ?_
  refine W_aloadN B (hb hby d27_0) (pc' := 1) rfl rfl rfl ?_
  refine W_privateS B (y := (⟨"com/example/tanglemark/tanglemark/datalog/Relation", "requireOpen", "()V"⟩ : MethodName)) hown (ow hw (i := 217) rfl) (ow hw (i := 218) rfl) (ow hw (i := 2) rfl) (ow hw (i := 219) rfl) (ow hw (i := 3) rfl) (ow hw (i := 220) rfl) (by decide) (a := ka1) (rm_a44 l Z a0 hw h0 ka1 _ _ _ _ _ _ _ _ _ _ ka8 ka9 ka7 ka10 ka6 _ ) (lenOf pd_0 rfl) (hb hby d27_1) (pc' := 4) rfl (argsL := []) (rest := []) rfl (by rw [hml]; rfl) (W := 0) (oLe rfl) (j := 10) rfl (by decide) (cells' := 0) rfl (slots' := 0) rfl ?_
  intro T v_ d_ q_ B
  obtain ⟨rfl, rfl⟩ := q_
  show oWin p e below Z h0 _ _ (T.setTop (mkF m 4 #[.val (.ref ka1), .val (.ref ka2)] []))
  refine W_aloadN B (hb hby d27_4) (pc' := 5) rfl rfl rfl ?_
  refine W_aloadN B (hb hby d27_5) (pc' := 6) rfl rfl rfl ?_
  refine W_getfield B hown (host := "") (Or.inl (ow hw (i := 200) rfl)) Via.refl (hb hby d27_6) (pc' := 9) rfl (j := 10) rfl (q := 10) rfl ?_
  intro T B
  refine W_aloadN B (hb hby d27_9) (pc' := 10) rfl rfl rfl ?_
  refine W_aloadN B (hb hby d27_10) (pc' := 11) rfl rfl rfl ?_
  refine W_getfield B hown (host := "") (Or.inl (ow hw (i := 198) rfl)) Via.refl (hb hby d27_11) (pc' := 14) rfl (j := 10) rfl (q := 9) rfl ?_
  intro T B
  refine W_virtual B (y := (⟨"com/example/tanglemark/tanglemark/datalog/Relation", "newest", "(Lcom/example/tanglemark/tanglemark/datalog/Relation$Chains;[II)I"⟩ : MethodName)) (z := (⟨"com/example/tanglemark/tanglemark/datalog/Relation", "newest", "(Lcom/example/tanglemark/tanglemark/datalog/Relation$Chains;[II)I"⟩ : MethodName)) hown (ow hw (i := 221) rfl) (ow hw (i := 222) rfl) (oNotFace B (ow hw (i := 224) rfl) rfl) (ow hw (i := 224) rfl) (ow hw (i := 223) rfl) (ow hw (i := 3) rfl) (ow hw (i := 225) rfl) (by decide) (a := ka1) (rm_a67 l Z a0 hw h0 ka1 ka6 ka2 _ _ ka3 ka4 ia1 ia2 ia3 ka5 _ _ ka7 _ ka8 ka9 ka10 _ _ ia4 ia5 ia6 _ hy0 hy1 hy2 hy3) (lenOf pd_19 rfl) (hb hby d27_14) (pc' := 17) rfl (argsL := [(.ref ka6), (.ref ka2), (.int (1 : Int32))]) (rest := []) rfl (by rw [hml]; rfl) (W := 0) (oLe rfl) (j := 10) rfl (by decide) (cells' := 0) rfl (slots' := 0) rfl ?_
  intro T v_ d_ q_ B
  obtain ⟨rfl, rfl⟩ := q_
  show oWin p e below Z h0 _ _ (T.setTop (mkF m 17 #[.val (.ref ka1), .val (.ref ka2)] [(.int (-1 : Int32))]))
  refine W_retI B hret (hb hby d27_17) (by decide) ?_
  exact ⟨rfl, rfl⟩
theorem ef_rm_a69 (m : MethodId) (x0 : Addr) (x1 : Addr) : entryFrame m #[(.ref x0), (.ref x1)] 2 = mkF m 0 #[.val (.ref x0), .val (.ref x1)] [] := by first | (simp [entryFrame, mkF, argsToLocals, Value.category]; done) | rfl
set_option maxRecDepth 65536 in
set_option maxHeartbeats 40000000 in
theorem rm_a69 (l : Launch) (Z : State) (a0 : Array Value) (hw : ∀ d ∈ tables_1, d.before a0 Z = true) (h0 : Heap) {lo : Nat} (ka1 : Addr) (ka2 : Addr) (e0 : Addr × oD) (e1 : Addr × oD) (ka3 : Addr) (ka4 : Addr) (ia1 : Int32) (ia2 : Int32) (ia3 : Int32) (ka5 : Addr) (ka6 : Addr) (e6 : Addr × oD) (e7 : Addr × oD) (ka7 : Addr) (e9 : Addr × oD) (ka8 : Addr) (ka9 : Addr) (ka10 : Addr) (e11 : Addr × oD) (e12 : Addr × oD) (ia4 : Int32) (ia5 : Int32) (ia6 : Int32) (ds : oDs) (hy0 : (oHd0.set ((oH ia1 ia2 ia3) &&& (15 : Int32)).toNatClampNeg (.int (0 : Int32))).length.toInt32 = (16 : Int32)) (hy1 : (oHd0.set ((oH ia1 ia2 ia3) &&& (15 : Int32)).toNatClampNeg (.int (0 : Int32)))[((oH ia4 ia5 ia6) &&& (15 : Int32)).toNatClampNeg]? = some (.int (0 : Int32))) (hy2 : ¬ ((oH ia4 ia5 ia6) &&& (15 : Int32)) < (0 : Int32)) (hy3 : ¬ (ia1 = ia4 ∧ ia2 = ia5 ∧ ia3 = ia6)) :
    oMet l Z h0 lo (⟨"com/example/tanglemark/tanglemark/datalog/Relation", "contains", "([I)Z"⟩ : MethodName) prog_45_method_13_code 2 (some .boolean) [] ({ frames := 4, cells := 0, slots := 0, locals := 60 } : Room) #[(.ref ka1), (.ref ka2)] (e0 :: e1 :: (ka3, oA .int [(.int (-1 : Int32)), o0, o0, o0, o0, o0, o0, o0, o0, o0, o0, o0, o0, o0, o0, o0]) :: (ka4, oA .int (oHd0.set ((oH ia1 ia2 ia3) &&& (15 : Int32)).toNatClampNeg (.int (0 : Int32)))) :: (ka5, oA .int [o0, (.int (1 : Int32)), (.int (2 : Int32))]) :: (ka6, oO cn3 [(fk18, (.ref ka5)), (fk19, (.ref ka4)), (fk20, (.ref ka3))]) :: e6 :: e7 :: (ka7, oA .int [(.int ia1), (.int ia2), (.int ia3), o0, o0, o0, o0, o0, o0, o0, o0, o0, o0, o0, o0, o0, o0, o0, o0, o0, o0, o0, o0, o0, o0, o0, o0, o0, o0, o0, o0, o0, o0, o0, o0, o0, o0, o0, o0, o0, o0, o0, o0, o0, o0, o0, o0, o0]) :: e9 :: (ka1, oO cn0 [(fk0, (.ref ka8)), (fk1, (.ref ka9)), (fk2, (.int (3 : Int32))), (fk3, (.int (2147483639 : Int32))), (fk4, (.int (1073741824 : Int32))), (fk5, (.ref ka7)), (fk6, (.ref ka10)), (fk7, .null), (fk8, (.int (0 : Int32))), (fk9, (.int (1 : Int32))), (fk10, (.ref ka6))]) :: e11 :: e12 :: (ka2, oA .int [(.int ia4), (.int ia5), (.int ia6)]) :: ds) (fun (v : Option Value) (d : oDs) => (v = some (.int (0 : Int32)) ∧ (e0 :: e1 :: (ka3, oA .int [(.int (-1 : Int32)), o0, o0, o0, o0, o0, o0, o0, o0, o0, o0, o0, o0, o0, o0, o0]) :: (ka4, oA .int (oHd0.set ((oH ia1 ia2 ia3) &&& (15 : Int32)).toNatClampNeg (.int (0 : Int32)))) :: (ka5, oA .int [o0, (.int (1 : Int32)), (.int (2 : Int32))]) :: (ka6, oO cn3 [(fk18, (.ref ka5)), (fk19, (.ref ka4)), (fk20, (.ref ka3))]) :: e6 :: e7 :: (ka7, oA .int [(.int ia1), (.int ia2), (.int ia3), o0, o0, o0, o0, o0, o0, o0, o0, o0, o0, o0, o0, o0, o0, o0, o0, o0, o0, o0, o0, o0, o0, o0, o0, o0, o0, o0, o0, o0, o0, o0, o0, o0, o0, o0, o0, o0, o0, o0, o0, o0, o0, o0, o0, o0]) :: e9 :: (ka1, oO cn0 [(fk0, (.ref ka8)), (fk1, (.ref ka9)), (fk2, (.int (3 : Int32))), (fk3, (.int (2147483639 : Int32))), (fk4, (.int (1073741824 : Int32))), (fk5, (.ref ka7)), (fk6, (.ref ka10)), (fk7, .null), (fk8, (.int (0 : Int32))), (fk9, (.int (1 : Int32))), (fk10, (.ref ka6))]) :: e11 :: e12 :: (ka2, oA .int [(.int ia4), (.int ia5), (.int ia6)]) :: ds) = d)) := by
  refine oMet.of_body (plainFor_of_name pn_9) ?_
  intro p e s m below meth c T B hby hml hown hnm hret
  refine W_entry (ef_rm_a69 m ka1 ka2) ?_
  refine W_aloadN B (hb hby d26_0) (pc' := 1) rfl rfl rfl ?_
  refine W_aloadN B (hb hby d26_1) (pc' := 2) rfl rfl rfl ?_
  refine W_virtual B (y := (⟨"com/example/tanglemark/tanglemark/datalog/Relation", "row", "([I)I"⟩ : MethodName)) (z := (⟨"com/example/tanglemark/tanglemark/datalog/Relation", "row", "([I)I"⟩ : MethodName)) hown (ow hw (i := 212) rfl) (ow hw (i := 213) rfl) (oNotFace B (ow hw (i := 215) rfl) rfl) (ow hw (i := 215) rfl) (ow hw (i := 214) rfl) (ow hw (i := 3) rfl) (ow hw (i := 216) rfl) (by decide) (a := ka1) (rm_a68 l Z a0 hw h0 ka1 ka2 _ _ ka3 ka4 ia1 ia2 ia3 ka5 ka6 _ _ ka7 _ ka8 ka9 ka10 _ _ ia4 ia5 ia6 _ hy0 hy1 hy2 hy3) (lenOf pd_17 rfl) (hb hby d26_2) (pc' := 5) rfl (argsL := [(.ref ka2)]) (rest := []) rfl (by rw [hml]; rfl) (W := 0) (oLe rfl) (j := 10) rfl (by decide) (cells' := 0) rfl (slots' := 0) rfl ?_
  intro T v_ d_ q_ B
  obtain ⟨rfl, rfl⟩ := q_
  show oWin p e below Z h0 _ _ (T.setTop (mkF m 5 #[.val (.ref ka1), .val (.ref ka2)] [(.int (-1 : Int32))]))
  refine W_ifY B (hb hby d26_5) (by decide) (pc' := 12) (by decide) (by decide) ?_
  refine W_iconst B (hb hby d26_12) (pc' := 13) rfl (z := (0 : Int32)) (by decide) ?_
  refine W_retN B hret (by simp) (hb hby d26_13) (by decide) ?_
  exact ⟨rfl, rfl⟩
theorem ef_rm_a70 (m : MethodId) (x0 : Addr) (x1 : Addr) : entryFrame m #[(.ref x0), (.ref x1)] 2 = mkF m 0 #[.val (.ref x0), .val (.ref x1)] [] := by first | (simp [entryFrame, mkF, argsToLocals, Value.category]; done) | rfl
set_option maxRecDepth 65536 in
set_option maxHeartbeats 40000000 in
theorem rm_a70 (l : Launch) (Z : State) (a0 : Array Value) (hw : ∀ d ∈ tables_1, d.before a0 Z = true) (h0 : Heap) {lo : Nat} (ka1 : Addr) (ka2 : Addr) (e1 : Addr × oD) (e2 : Addr × oD) (e3 : Addr × oD) (e4 : Addr × oD) (e5 : Addr × oD) (e6 : Addr × oD) (e7 : Addr × oD) (e8 : Addr × oD) (e9 : Addr × oD) (ka3 : Addr) (ds : oDs) :
    oMet l Z h0 lo (⟨"java/util/ArrayList$Itr", "<init>", "(Ljava/util/ArrayList;)V"⟩ : MethodName) jdk_49_method_1_code 2 none [] ({ frames := 1, cells := 0, slots := 0, locals := 12 } : Room) #[(.ref ka1), (.ref ka2)] ((ka1, oO cn2 [(fk14, .null), (fk15, (.int (0 : Int32))), (fk16, (.int (0 : Int32))), (fk17, (.int (0 : Int32)))]) :: e1 :: e2 :: e3 :: e4 :: e5 :: e6 :: e7 :: e8 :: e9 :: (ka2, oO cn1 [(fk11, (.int (1 : Int32))), (fk12, (.ref ka3)), (fk13, (.int (1 : Int32)))]) :: ds) (fun (v : Option Value) (d : oDs) => (v = none ∧ ((ka1, oO cn2 [(fk14, (.ref ka2)), (fk15, (.int (-1 : Int32))), (fk16, (.int (1 : Int32))), (fk17, (.int (0 : Int32)))]) :: e1 :: e2 :: e3 :: e4 :: e5 :: e6 :: e7 :: e8 :: e9 :: (ka2, oO cn1 [(fk11, (.int (1 : Int32))), (fk12, (.ref ka3)), (fk13, (.int (1 : Int32)))]) :: ds) = d)) := by
  refine oMet.of_body (plainFor_of_name pn_6) ?_
  intro p e s m below meth c T B hby hml hown hnm hret
  refine W_entry (ef_rm_a70 m ka1 ka2) ?_
  refine W_aloadN B (hb hby d15_0) (pc' := 1) rfl rfl rfl ?_
  refine W_aloadN B (hb hby d15_1) (pc' := 2) rfl rfl rfl ?_
  refine W_putfield B hown (host := "") (Or.inl (ow hw (i := 110) rfl)) Via.refl (hb hby d15_2) (pc' := 5) rfl (Or.inr ⟨(ow hw (i := 111) rfl), rfl, hnm⟩) (ow hw (i := 104) rfl) (ty := (.object "java/util/ArrayList")) (by decide) rfl rfl (j := 0) rfl (q := 0) rfl (ds' := ((ka1, oO cn2 [(fk14, (.ref ka2)), (fk15, (.int (0 : Int32))), (fk16, (.int (0 : Int32))), (fk17, (.int (0 : Int32)))]) :: e1 :: e2 :: e3 :: e4 :: e5 :: e6 :: e7 :: e8 :: e9 :: (ka2, oO cn1 [(fk11, (.int (1 : Int32))), (fk12, (.ref ka3)), (fk13, (.int (1 : Int32)))]) :: ds)) rfl ?_
  intro T B
  refine W_aloadN B (hb hby d15_5) (pc' := 6) rfl rfl rfl ?_
  refine W_initO B hown (ow hw (i := 112) rfl) (ow hw (i := 20) rfl) (ow hw (i := 21) rfl) (hb hby d15_6) (pc' := 9) rfl (by rw [hml]; rfl) (W := 0) (oLe rfl) (by decide) ?_
  intro T B
  refine W_aloadN B (hb hby d15_9) (pc' := 10) rfl rfl rfl ?_
  refine W_iconst B (hb hby d15_10) (pc' := 11) rfl (z := (-1 : Int32)) (by decide) ?_
  refine W_putfield B hown (host := "") (Or.inl (ow hw (i := 113) rfl)) Via.refl (hb hby d15_11) (pc' := 14) rfl (Or.inl (ow hw (i := 114) rfl)) (ow hw (i := 104) rfl) (ty := .int) (by decide) rfl rfl (j := 0) rfl (q := 1) rfl (ds' := ((ka1, oO cn2 [(fk14, (.ref ka2)), (fk15, (.int (-1 : Int32))), (fk16, (.int (0 : Int32))), (fk17, (.int (0 : Int32)))]) :: e1 :: e2 :: e3 :: e4 :: e5 :: e6 :: e7 :: e8 :: e9 :: (ka2, oO cn1 [(fk11, (.int (1 : Int32))), (fk12, (.ref ka3)), (fk13, (.int (1 : Int32)))]) :: ds)) rfl ?_
  intro T B
  refine W_aloadN B (hb hby d15_14) (pc' := 15) rfl rfl rfl ?_
  refine W_aloadN B (hb hby d15_15) (pc' := 16) rfl rfl rfl ?_
  refine W_getfield B hown (host := "") (Or.inl (ow hw (i := 110) rfl)) Via.refl (hb hby d15_16) (pc' := 19) rfl (j := 0) rfl (q := 0) rfl ?_
  intro T B
  refine W_getfield B hown (host := "") (Or.inl (ow hw (i := 115) rfl)) (Via.of (ow hw (i := 116) rfl)) (hb hby d15_19) (pc' := 22) rfl (j := 10) rfl (q := 0) rfl ?_
  intro T B
  refine W_putfield B hown (host := "") (Or.inl (ow hw (i := 117) rfl)) Via.refl (hb hby d15_22) (pc' := 25) rfl (Or.inl (ow hw (i := 118) rfl)) (ow hw (i := 104) rfl) (ty := .int) (by decide) rfl rfl (j := 0) rfl (q := 2) rfl (ds' := ((ka1, oO cn2 [(fk14, (.ref ka2)), (fk15, (.int (-1 : Int32))), (fk16, (.int (1 : Int32))), (fk17, (.int (0 : Int32)))]) :: e1 :: e2 :: e3 :: e4 :: e5 :: e6 :: e7 :: e8 :: e9 :: (ka2, oO cn1 [(fk11, (.int (1 : Int32))), (fk12, (.ref ka3)), (fk13, (.int (1 : Int32)))]) :: ds)) rfl ?_
  intro T B
  refine W_retV B hret (hb hby d15_25) (by decide) ?_
  exact ⟨rfl, rfl⟩
theorem ef_rm_a71 (m : MethodId) (x0 : Addr) : entryFrame m #[(.ref x0)] 1 = mkF m 0 #[.val (.ref x0)] [] := by first | (simp [entryFrame, mkF, argsToLocals, Value.category]; done) | rfl
set_option maxRecDepth 65536 in
set_option maxHeartbeats 40000000 in
theorem rm_a71 (l : Launch) (Z : State) (a0 : Array Value) (hw : ∀ d ∈ tables_1, d.before a0 Z = true) (h0 : Heap) {lo : Nat} (ka1 : Addr) (e0 : Addr × oD) (e1 : Addr × oD) (e2 : Addr × oD) (e3 : Addr × oD) (e4 : Addr × oD) (e5 : Addr × oD) (e6 : Addr × oD) (e7 : Addr × oD) (e8 : Addr × oD) (ka2 : Addr) (ds : oDs) :
    oMet l Z h0 lo (⟨"java/util/ArrayList", "iterator", "()Ljava/util/Iterator;"⟩ : MethodName) jdk_38_method_55_code 1 (some (.object "java/util/Iterator")) [] ({ frames := 2, cells := 1, slots := 4, locals := 26 } : Room) #[(.ref ka1)] (e0 :: e1 :: e2 :: e3 :: e4 :: e5 :: e6 :: e7 :: e8 :: (ka1, oO cn1 [(fk11, (.int (1 : Int32))), (fk12, (.ref ka2)), (fk13, (.int (1 : Int32)))]) :: ds) (fun (v : Option Value) (d : oDs) => (∃ (b171 : Addr), v = some (.ref b171) ∧ ((b171, oO cn2 [(fk14, (.ref ka1)), (fk15, (.int (-1 : Int32))), (fk16, (.int (1 : Int32))), (fk17, (.int (0 : Int32)))]) :: e0 :: e1 :: e2 :: e3 :: e4 :: e5 :: e6 :: e7 :: e8 :: (ka1, oO cn1 [(fk11, (.int (1 : Int32))), (fk12, (.ref ka2)), (fk13, (.int (1 : Int32)))]) :: ds) = d)) := by
  refine oMet.of_body (plainFor_of_name pn_2) ?_
  intro p e s m below meth c T B hby hml hown hnm hret
  refine W_entry (ef_rm_a71 m ka1) ?_
  refine W_new B hown (ow hw (i := 103) rfl) (ow hw (i := 104) rfl) (ow hw (i := 105) rfl) (hb hby d14_0) (pc' := 3) rfl (by decide) (cells' := 1) rfl (slots' := 4) rfl (fs := [(fk14, .null), (fk15, (.int (0 : Int32))), (fk16, (.int (0 : Int32))), (fk17, (.int (0 : Int32)))]) (oAll_cons ⟨Or.inr (ow hw (i := 111) rfl), (.object "java/util/ArrayList"), by decide, rfl⟩ (oAll_cons ⟨Or.inl (ow hw (i := 114) rfl), .int, by decide, rfl⟩ (oAll_cons ⟨Or.inl (ow hw (i := 118) rfl), .int, by decide, rfl⟩ (oAll_cons ⟨Or.inl (ow hw (i := 129) rfl), .int, by decide, rfl⟩ oAll_nil)))) (by decide) ?_
  intro T b171 B
  refine W_dup B (hb hby d14_3) (pc' := 4) rfl rfl ?_
  refine W_aloadN B (hb hby d14_4) (pc' := 5) rfl rfl rfl ?_
  refine W_init B (y := (⟨"java/util/ArrayList$Itr", "<init>", "(Ljava/util/ArrayList;)V"⟩ : MethodName)) hown rfl (ow hw (i := 106) rfl) (ow hw (i := 107) rfl) (ow hw (i := 105) rfl) (ow hw (i := 109) rfl) (by decide) (a := b171) (rm_a70 l Z a0 hw h0 b171 ka1 _ _ _ _ _ _ _ _ _ ka2 _ ) (lenOf pd_5 rfl) (hb hby d14_5) (pc' := 8) rfl (argsL := [(.ref ka1)]) (rest := [(.ref b171)]) rfl (by rw [hml]; rfl) (W := 1) (oLe rfl) (by decide) (cells' := 1) rfl (slots' := 4) rfl ?_
  intro T v_ d_ q_ B
  obtain ⟨rfl, rfl⟩ := q_
  show oWin p e below Z h0 _ _ (T.setTop (mkF m 8 #[.val (.ref ka1)] [(.ref b171)]))
  refine W_retA B hret rfl rfl (hb hby d14_8) (by decide) ?_
  exact ⟨b171, rfl, rfl⟩
theorem ef_rm_a72 (m : MethodId) (x0 : Addr) : entryFrame m #[(.ref x0)] 1 = mkF m 0 #[.val (.ref x0)] [] := by first | (simp [entryFrame, mkF, argsToLocals, Value.category]; done) | rfl
set_option maxRecDepth 65536 in
set_option maxHeartbeats 40000000 in
theorem rm_a72 (l : Launch) (Z : State) (a0 : Array Value) (hw : ∀ d ∈ tables_1, d.before a0 Z = true) (h0 : Heap) {lo : Nat} (ka1 : Addr) (ka2 : Addr) (e1 : Addr × oD) (e2 : Addr × oD) (e3 : Addr × oD) (e4 : Addr × oD) (e5 : Addr × oD) (e6 : Addr × oD) (e7 : Addr × oD) (e8 : Addr × oD) (e9 : Addr × oD) (ka3 : Addr) (ds : oDs) :
    oMet l Z h0 lo (⟨"java/util/ArrayList$Itr", "hasNext", "()Z"⟩ : MethodName) jdk_49_method_2_code 1 (some .boolean) [] ({ frames := 0, cells := 0, slots := 0, locals := 0 } : Room) #[(.ref ka1)] ((ka1, oO cn2 [(fk14, (.ref ka2)), (fk15, (.int (-1 : Int32))), (fk16, (.int (1 : Int32))), (fk17, (.int (0 : Int32)))]) :: e1 :: e2 :: e3 :: e4 :: e5 :: e6 :: e7 :: e8 :: e9 :: (ka2, oO cn1 [(fk11, (.int (1 : Int32))), (fk12, (.ref ka3)), (fk13, (.int (1 : Int32)))]) :: ds) (fun (v : Option Value) (d : oDs) => (v = some (.int (1 : Int32)) ∧ ((ka1, oO cn2 [(fk14, (.ref ka2)), (fk15, (.int (-1 : Int32))), (fk16, (.int (1 : Int32))), (fk17, (.int (0 : Int32)))]) :: e1 :: e2 :: e3 :: e4 :: e5 :: e6 :: e7 :: e8 :: e9 :: (ka2, oO cn1 [(fk11, (.int (1 : Int32))), (fk12, (.ref ka3)), (fk13, (.int (1 : Int32)))]) :: ds) = d)) := by
  refine oMet.of_body (plainFor_of_name pn_6) ?_
  intro p e s m below meth c T B hby hml hown hnm hret
  refine W_entry (ef_rm_a72 m ka1) ?_
  refine W_aloadN B (hb hby d16_0) (pc' := 1) rfl rfl rfl ?_
  refine W_getfield B hown (host := "") (Or.inl (ow hw (i := 128) rfl)) Via.refl (hb hby d16_1) (pc' := 4) rfl (j := 0) rfl (q := 3) rfl ?_
  intro T B
  refine W_aloadN B (hb hby d16_4) (pc' := 5) rfl rfl rfl ?_
  refine W_getfield B hown (host := "") (Or.inl (ow hw (i := 110) rfl)) Via.refl (hb hby d16_5) (pc' := 8) rfl (j := 0) rfl (q := 0) rfl ?_
  intro T B
  refine W_getfield B hown (Or.inr (ow hw (i := 130) rfl)) Via.refl (hb hby d16_8) (pc' := 11) rfl (j := 10) rfl (q := 2) rfl ?_
  intro T B
  refine W_icmpN B (hb hby d16_11) (pc' := 14) rfl (by decide) ?_
  refine W_iconst B (hb hby d16_14) (pc' := 15) rfl (z := (1 : Int32)) (by decide) ?_
  refine W_goto B (hb hby d16_15) (by decide) (pc' := 19) (by decide) ?_
  refine W_retN B hret (by simp) (hb hby d16_19) (by decide) ?_
  exact ⟨rfl, rfl⟩
theorem ef_rm_a73 (m : MethodId) (x0 : Addr) : entryFrame m #[(.ref x0)] 1 = mkF m 0 #[.val (.ref x0)] [] := by first | (simp [entryFrame, mkF, argsToLocals, Value.category]; done) | rfl
set_option maxRecDepth 65536 in
set_option maxHeartbeats 40000000 in
theorem rm_a73 (l : Launch) (Z : State) (a0 : Array Value) (hw : ∀ d ∈ tables_1, d.before a0 Z = true) (h0 : Heap) {lo : Nat} (ka1 : Addr) (ka2 : Addr) (e1 : Addr × oD) (e2 : Addr × oD) (e3 : Addr × oD) (e4 : Addr × oD) (e5 : Addr × oD) (e6 : Addr × oD) (e7 : Addr × oD) (e8 : Addr × oD) (e9 : Addr × oD) (ka3 : Addr) (ds : oDs) :
    oMet l Z h0 lo (⟨"java/util/ArrayList$Itr", "checkForComodification", "()V"⟩ : MethodName) jdk_49_method_6_code 1 none [] ({ frames := 0, cells := 0, slots := 0, locals := 0 } : Room) #[(.ref ka1)] ((ka1, oO cn2 [(fk14, (.ref ka2)), (fk15, (.int (-1 : Int32))), (fk16, (.int (1 : Int32))), (fk17, (.int (0 : Int32)))]) :: e1 :: e2 :: e3 :: e4 :: e5 :: e6 :: e7 :: e8 :: e9 :: (ka2, oO cn1 [(fk11, (.int (1 : Int32))), (fk12, (.ref ka3)), (fk13, (.int (1 : Int32)))]) :: ds) (fun (v : Option Value) (d : oDs) => (v = none ∧ ((ka1, oO cn2 [(fk14, (.ref ka2)), (fk15, (.int (-1 : Int32))), (fk16, (.int (1 : Int32))), (fk17, (.int (0 : Int32)))]) :: e1 :: e2 :: e3 :: e4 :: e5 :: e6 :: e7 :: e8 :: e9 :: (ka2, oO cn1 [(fk11, (.int (1 : Int32))), (fk12, (.ref ka3)), (fk13, (.int (1 : Int32)))]) :: ds) = d)) := by
  refine oMet.of_body (plainFor_of_name pn_6) ?_
  intro p e s m below meth c T B hby hml hown hnm hret
  refine W_entry (ef_rm_a73 m ka1) ?_
  refine W_aloadN B (hb hby d36_0) (pc' := 1) rfl rfl rfl ?_
  refine W_getfield B hown (host := "") (Or.inl (ow hw (i := 110) rfl)) Via.refl (hb hby d36_1) (pc' := 4) rfl (j := 0) rfl (q := 0) rfl ?_
  intro T B
  refine W_getfield B hown (host := "") (Or.inl (ow hw (i := 115) rfl)) (Via.of (ow hw (i := 116) rfl)) (hb hby d36_4) (pc' := 7) rfl (j := 10) rfl (q := 0) rfl ?_
  intro T B
  refine W_aloadN B (hb hby d36_7) (pc' := 8) rfl rfl rfl ?_
  refine W_getfield B hown (host := "") (Or.inl (ow hw (i := 117) rfl)) Via.refl (hb hby d36_8) (pc' := 11) rfl (j := 0) rfl (q := 2) rfl ?_
  intro T B
  refine W_icmpY B (hb hby d36_11) (by decide) (pc' := 22) (by decide) (by decide) ?_
  refine W_retV B hret (hb hby d36_22) (by decide) ?_
  exact ⟨rfl, rfl⟩
theorem ef_rm_a74 (m : MethodId) (x0 : Addr) : entryFrame m #[(.ref x0)] 3 = mkF m 0 #[.val (.ref x0), .unset, .unset] [] := by first | (simp [entryFrame, mkF, argsToLocals, Value.category]; done) | rfl
set_option maxRecDepth 65536 in
set_option maxHeartbeats 40000000 in
theorem rm_a74 (l : Launch) (Z : State) (a0 : Array Value) (hw : ∀ d ∈ tables_1, d.before a0 Z = true) (h0 : Heap) {lo : Nat} (ka1 : Addr) (ka2 : Addr) (e1 : Addr × oD) (ka3 : Addr) (ka4 : Addr) (e3 : Addr × oD) (e4 : Addr × oD) (e5 : Addr × oD) (e6 : Addr × oD) (e7 : Addr × oD) (e8 : Addr × oD) (e9 : Addr × oD) (ds : oDs) :
    oMet l Z h0 lo (⟨"java/util/ArrayList$Itr", "next", "()Ljava/lang/Object;"⟩ : MethodName) jdk_49_method_3_code 3 (some (.object "java/lang/Object")) [] ({ frames := 1, cells := 0, slots := 0, locals := 12 } : Room) #[(.ref ka1)] ((ka1, oO cn2 [(fk14, (.ref ka2)), (fk15, (.int (-1 : Int32))), (fk16, (.int (1 : Int32))), (fk17, (.int (0 : Int32)))]) :: e1 :: (ka3, oA (.object "java/lang/Object") [(.ref ka4), .null, .null, .null, .null, .null, .null, .null, .null, .null]) :: e3 :: e4 :: e5 :: e6 :: e7 :: e8 :: e9 :: (ka2, oO cn1 [(fk11, (.int (1 : Int32))), (fk12, (.ref ka3)), (fk13, (.int (1 : Int32)))]) :: ds) (fun (v : Option Value) (d : oDs) => (v = some (.ref ka4) ∧ ((ka1, oO cn2 [(fk14, (.ref ka2)), (fk15, (.int (0 : Int32))), (fk16, (.int (1 : Int32))), (fk17, (.int (1 : Int32)))]) :: e1 :: (ka3, oA (.object "java/lang/Object") [(.ref ka4), .null, .null, .null, .null, .null, .null, .null, .null, .null]) :: e3 :: e4 :: e5 :: e6 :: e7 :: e8 :: e9 :: (ka2, oO cn1 [(fk11, (.int (1 : Int32))), (fk12, (.ref ka3)), (fk13, (.int (1 : Int32)))]) :: ds) = d)) := by
  refine oMet.of_body (plainFor_of_name pn_6) ?_
  intro p e s m below meth c T B hby hml hown hnm hret
  refine W_entry (ef_rm_a74 m ka1) ?_
  refine W_aloadN B (hb hby d35_0) (pc' := 1) rfl rfl rfl ?_
  refine W_virtual B (y := (⟨"java/util/ArrayList$Itr", "checkForComodification", "()V"⟩ : MethodName)) (z := (⟨"java/util/ArrayList$Itr", "checkForComodification", "()V"⟩ : MethodName)) hown (ow hw (i := 257) rfl) (ow hw (i := 258) rfl) (oNotFace B (ow hw (i := 260) rfl) rfl) (ow hw (i := 260) rfl) (ow hw (i := 259) rfl) (ow hw (i := 105) rfl) (ow hw (i := 261) rfl) (by decide) (a := ka1) (rm_a73 l Z a0 hw h0 ka1 ka2 _ _ _ _ _ _ _ _ _ ka3 _ ) (lenOf pd_0 rfl) (hb hby d35_1) (pc' := 4) rfl (argsL := []) (rest := []) rfl (by rw [hml]; rfl) (W := 0) (oLe rfl) (j := 0) rfl (by decide) (cells' := 0) rfl (slots' := 0) rfl ?_
  intro T v_ d_ q_ B
  obtain ⟨rfl, rfl⟩ := q_
  show oWin p e below Z h0 _ _ (T.setTop (mkF m 4 #[.val (.ref ka1), .unset, .unset] []))
  refine W_aloadN B (hb hby d35_4) (pc' := 5) rfl rfl rfl ?_
  refine W_getfield B hown (host := "") (Or.inl (ow hw (i := 128) rfl)) Via.refl (hb hby d35_5) (pc' := 8) rfl (j := 0) rfl (q := 3) rfl ?_
  intro T B
  refine W_istoreN B (hb hby d35_8) (pc' := 9) rfl (v := (0 : Int32)) rfl (ls' := #[.val (.ref ka1), .val (.int (0 : Int32)), .unset]) rfl ?_
  refine W_iloadN B (hb hby d35_9) (pc' := 10) rfl rfl ?_
  refine W_aloadN B (hb hby d35_10) (pc' := 11) rfl rfl rfl ?_
  refine W_getfield B hown (host := "") (Or.inl (ow hw (i := 110) rfl)) Via.refl (hb hby d35_11) (pc' := 14) rfl (j := 0) rfl (q := 0) rfl ?_
  intro T B
  refine W_getfield B hown (Or.inr (ow hw (i := 130) rfl)) Via.refl (hb hby d35_14) (pc' := 17) rfl (j := 10) rfl (q := 2) rfl ?_
  intro T B
  refine W_icmpY B (hb hby d35_17) (by decide) (pc' := 28) (by decide) (by decide) ?_
  refine W_aloadN B (hb hby d35_28) (pc' := 29) rfl rfl rfl ?_
  refine W_getfield B hown (host := "") (Or.inl (ow hw (i := 110) rfl)) Via.refl (hb hby d35_29) (pc' := 32) rfl (j := 0) rfl (q := 0) rfl ?_
  intro T B
  refine W_getfield B hown (host := "") (Or.inl (ow hw (i := 262) rfl)) Via.refl (hb hby d35_32) (pc' := 35) rfl (j := 10) rfl (q := 1) rfl ?_
  intro T B
  refine W_astoreN B (hb hby d35_35) (pc' := 36) rfl rfl (ls' := #[.val (.ref ka1), .val (.int (0 : Int32)), .val (.ref ka3)]) rfl ?_
  refine W_iloadN B (hb hby d35_36) (pc' := 37) rfl rfl ?_
  refine W_aloadN B (hb hby d35_37) (pc' := 38) rfl rfl rfl ?_
  refine W_arraylength B (hb hby d35_38) (pc' := 39) rfl (j := 2) rfl (z := (10 : Int32)) rfl ?_
  refine W_icmpY B (hb hby d35_39) (by decide) (pc' := 50) (by decide) (by decide) ?_
  refine W_aloadN B (hb hby d35_50) (pc' := 51) rfl rfl rfl ?_
  refine W_iloadN B (hb hby d35_51) (pc' := 52) rfl rfl ?_
  refine W_iconst B (hb hby d35_52) (pc' := 53) rfl (z := (1 : Int32)) (by decide) ?_
  refine W_iadd B (hb hby d35_53) (pc' := 54) rfl (z := (1 : Int32)) (by decide) ?_
  refine W_putfield B hown (host := "") (Or.inl (ow hw (i := 128) rfl)) Via.refl (hb hby d35_54) (pc' := 57) rfl (Or.inl (ow hw (i := 129) rfl)) (ow hw (i := 104) rfl) (ty := .int) (by decide) rfl rfl (j := 0) rfl (q := 3) rfl (ds' := ((ka1, oO cn2 [(fk14, (.ref ka2)), (fk15, (.int (-1 : Int32))), (fk16, (.int (1 : Int32))), (fk17, (.int (1 : Int32)))]) :: e1 :: (ka3, oA (.object "java/lang/Object") [(.ref ka4), .null, .null, .null, .null, .null, .null, .null, .null, .null]) :: e3 :: e4 :: e5 :: e6 :: e7 :: e8 :: e9 :: (ka2, oO cn1 [(fk11, (.int (1 : Int32))), (fk12, (.ref ka3)), (fk13, (.int (1 : Int32)))]) :: ds)) rfl ?_
  intro T B
  refine W_aloadN B (hb hby d35_57) (pc' := 58) rfl rfl rfl ?_
  refine W_aloadN B (hb hby d35_58) (pc' := 59) rfl rfl rfl ?_
  refine W_iloadN B (hb hby d35_59) (pc' := 60) rfl rfl ?_
  refine W_dupX1 B (hb hby d35_60) (pc' := 61) rfl rfl rfl ?_
  refine W_putfield B hown (host := "") (Or.inl (ow hw (i := 113) rfl)) Via.refl (hb hby d35_61) (pc' := 64) rfl (Or.inl (ow hw (i := 114) rfl)) (ow hw (i := 104) rfl) (ty := .int) (by decide) rfl rfl (j := 0) rfl (q := 1) rfl (ds' := ((ka1, oO cn2 [(fk14, (.ref ka2)), (fk15, (.int (0 : Int32))), (fk16, (.int (1 : Int32))), (fk17, (.int (1 : Int32)))]) :: e1 :: (ka3, oA (.object "java/lang/Object") [(.ref ka4), .null, .null, .null, .null, .null, .null, .null, .null, .null]) :: e3 :: e4 :: e5 :: e6 :: e7 :: e8 :: e9 :: (ka2, oO cn1 [(fk11, (.int (1 : Int32))), (fk12, (.ref ka3)), (fk13, (.int (1 : Int32)))]) :: ds)) rfl ?_
  intro T B
  refine W_aaload B (hb hby d35_64) (pc' := 65) rfl (i := 2) rfl rfl (by decide) (v := (.ref ka4)) rfl ?_
  refine W_retA B hret rfl rfl (hb hby d35_65) (by decide) ?_
  exact ⟨rfl, rfl⟩
theorem ef_rm_a75 (m : MethodId) (x0 : Addr) (x1 : Addr) : entryFrame m #[(.ref x0), (.ref x1), (.int (1 : Int32))] 8 = mkF m 0 #[.val (.ref x0), .val (.ref x1), .val (.int (1 : Int32)), .unset, .unset, .unset, .unset, .unset] [] := by first | (simp [entryFrame, mkF, argsToLocals, Value.category]; done) | rfl
set_option maxRecDepth 65536 in
set_option maxHeartbeats 40000000 in
theorem rm_a75 (l : Launch) (Z : State) (a0 : Array Value) (hw : ∀ d ∈ tables_1, d.before a0 Z = true) (h0 : Heap) {lo : Nat} (ka1 : Addr) (ka2 : Addr) (e0 : Addr × oD) (e1 : Addr × oD) (e2 : Addr × oD) (e3 : Addr × oD) (e4 : Addr × oD) (e6 : Addr × oD) (e7 : Addr × oD) (e8 : Addr × oD) (ka3 : Addr) (ia1 : Int32) (ia2 : Int32) (ia3 : Int32) (ia4 : Int32) (ia5 : Int32) (ia6 : Int32) (e10 : Addr × oD) (ka4 : Addr) (ka5 : Addr) (ka6 : Addr) (ka7 : Addr) (ds : oDs) :
    oMet l Z h0 lo (⟨"com/example/tanglemark/tanglemark/datalog/Relation", "hashRow", "([II)I"⟩ : MethodName) prog_45_method_31_code 8 (some .int) [] ({ frames := 1, cells := 0, slots := 0, locals := 13 } : Room) #[(.ref ka1), (.ref ka2), (.int (1 : Int32))] (e0 :: e1 :: e2 :: e3 :: e4 :: (ka2, oA .int [o0, (.int (1 : Int32)), (.int (2 : Int32))]) :: e6 :: e7 :: e8 :: (ka3, oA .int [(.int ia1), (.int ia2), (.int ia3), (.int ia4), (.int ia5), (.int ia6), o0, o0, o0, o0, o0, o0, o0, o0, o0, o0, o0, o0, o0, o0, o0, o0, o0, o0, o0, o0, o0, o0, o0, o0, o0, o0, o0, o0, o0, o0, o0, o0, o0, o0, o0, o0, o0, o0, o0, o0, o0, o0]) :: e10 :: (ka1, oO cn0 [(fk0, (.ref ka4)), (fk1, (.ref ka5)), (fk2, (.int (3 : Int32))), (fk3, (.int (2147483639 : Int32))), (fk4, (.int (1073741824 : Int32))), (fk5, (.ref ka3)), (fk6, (.ref ka6)), (fk7, .null), (fk8, (.int (0 : Int32))), (fk9, (.int (2 : Int32))), (fk10, (.ref ka7))]) :: ds) (fun (v : Option Value) (d : oDs) => (v = some (.int (oH ia4 ia5 ia6)) ∧ (e0 :: e1 :: e2 :: e3 :: e4 :: (ka2, oA .int [o0, (.int (1 : Int32)), (.int (2 : Int32))]) :: e6 :: e7 :: e8 :: (ka3, oA .int [(.int ia1), (.int ia2), (.int ia3), (.int ia4), (.int ia5), (.int ia6), o0, o0, o0, o0, o0, o0, o0, o0, o0, o0, o0, o0, o0, o0, o0, o0, o0, o0, o0, o0, o0, o0, o0, o0, o0, o0, o0, o0, o0, o0, o0, o0, o0, o0, o0, o0, o0, o0, o0, o0, o0, o0]) :: e10 :: (ka1, oO cn0 [(fk0, (.ref ka4)), (fk1, (.ref ka5)), (fk2, (.int (3 : Int32))), (fk3, (.int (2147483639 : Int32))), (fk4, (.int (1073741824 : Int32))), (fk5, (.ref ka3)), (fk6, (.ref ka6)), (fk7, .null), (fk8, (.int (0 : Int32))), (fk9, (.int (2 : Int32))), (fk10, (.ref ka7))]) :: ds) = d)) := by
  refine oMet.of_body (plainFor_of_name pn_9) ?_
  intro p e s m below meth c T B hby hml hown hnm hret
  refine W_entry (ef_rm_a75 m ka1 ka2) ?_
  refine W_iconst B (hb hby d39_0) (pc' := 1) rfl (z := (0 : Int32)) (by decide) ?_
  refine W_istoreN B (hb hby d39_1) (pc' := 2) rfl (v := (0 : Int32)) rfl (ls' := #[.val (.ref ka1), .val (.ref ka2), .val (.int (1 : Int32)), .val (.int (0 : Int32)), .unset, .unset, .unset, .unset]) rfl ?_
  refine W_aloadN B (hb hby d39_2) (pc' := 3) rfl rfl rfl ?_
  refine W_astore B (hb hby d39_3) (pc' := 5) rfl rfl (ls' := #[.val (.ref ka1), .val (.ref ka2), .val (.int (1 : Int32)), .val (.int (0 : Int32)), .val (.ref ka2), .unset, .unset, .unset]) rfl ?_
  refine W_aload B (hb hby d39_5) (pc' := 7) rfl rfl rfl ?_
  refine W_arraylength B (hb hby d39_7) (pc' := 8) rfl (j := 5) rfl (z := (3 : Int32)) rfl ?_
  refine W_istore B (hb hby d39_8) (pc' := 10) rfl (v := (3 : Int32)) rfl (ls' := #[.val (.ref ka1), .val (.ref ka2), .val (.int (1 : Int32)), .val (.int (0 : Int32)), .val (.ref ka2), .val (.int (3 : Int32)), .unset, .unset]) rfl ?_
  refine W_iconst B (hb hby d39_10) (pc' := 11) rfl (z := (0 : Int32)) (by decide) ?_
  refine W_istore B (hb hby d39_11) (pc' := 13) rfl (v := (0 : Int32)) rfl (ls' := #[.val (.ref ka1), .val (.ref ka2), .val (.int (1 : Int32)), .val (.int (0 : Int32)), .val (.ref ka2), .val (.int (3 : Int32)), .val (.int (0 : Int32)), .unset]) rfl ?_
  refine W_iload B (hb hby d39_13) (pc' := 15) rfl rfl ?_
  refine W_iload B (hb hby d39_15) (pc' := 17) rfl rfl ?_
  refine W_icmpN B (hb hby d39_17) (pc' := 20) rfl (by decide) ?_
  refine W_aload B (hb hby d39_20) (pc' := 22) rfl rfl rfl ?_
  refine W_iload B (hb hby d39_22) (pc' := 24) rfl rfl ?_
  refine W_iaload B (hb hby d39_24) (pc' := 25) rfl (i := 5) rfl (by decide) (v := (.int (0 : Int32))) rfl ?_
  refine W_istore B (hb hby d39_25) (pc' := 27) rfl (v := (0 : Int32)) rfl (ls' := #[.val (.ref ka1), .val (.ref ka2), .val (.int (1 : Int32)), .val (.int (0 : Int32)), .val (.ref ka2), .val (.int (3 : Int32)), .val (.int (0 : Int32)), .val (.int (0 : Int32))]) rfl ?_
  refine W_iloadN B (hb hby d39_27) (pc' := 28) rfl rfl ?_
  refine W_aloadN B (hb hby d39_28) (pc' := 29) rfl rfl rfl ?_
  refine W_getfield B hown (host := "") (Or.inl (ow hw (i := 69) rfl)) Via.refl (hb hby d39_29) (pc' := 32) rfl (j := 11) rfl (q := 5) rfl ?_
  intro T B
  refine W_iloadN B (hb hby d39_32) (pc' := 33) rfl rfl ?_
  refine W_aloadN B (hb hby d39_33) (pc' := 34) rfl rfl rfl ?_
  refine W_getfield B hown (host := "") (Or.inl (ow hw (i := 50) rfl)) Via.refl (hb hby d39_34) (pc' := 37) rfl (j := 11) rfl (q := 2) rfl ?_
  intro T B
  refine W_imul B (hb hby d39_37) (pc' := 38) rfl (z := (3 : Int32)) (by decide) ?_
  refine W_iload B (hb hby d39_38) (pc' := 40) rfl rfl ?_
  refine W_iadd B (hb hby d39_40) (pc' := 41) rfl (z := (3 : Int32)) (by decide) ?_
  refine W_iaload B (hb hby d39_41) (pc' := 42) rfl (i := 9) rfl (by decide) (v := (.int ia4)) rfl ?_
  refine W_callS B (y := (⟨"com/example/tanglemark/tanglemark/datalog/Relation", "mix", "(II)I"⟩ : MethodName)) hown (ow hw (i := 229) rfl) (ow hw (i := 230) rfl) (ow hw (i := 3) rfl) (ow hw (i := 231) rfl) (by decide) (rm_a24 l Z a0 hw h0 ia4 _ ) (lenOf pd_2 rfl) (hb hby d39_42) (pc' := 45) rfl (argsL := [(.int (0 : Int32)), (.int ia4)]) (rest := []) rfl (by rw [hml]; rfl) (W := 0) (oLe rfl) (by decide) (cells' := 0) rfl (slots' := 0) rfl ?_
  intro T v_ d_ q_ B
  obtain ⟨rfl, rfl⟩ := q_
  show oWin p e below Z h0 _ _ (T.setTop (mkF m 45 #[.val (.ref ka1), .val (.ref ka2), .val (.int (1 : Int32)), .val (.int (0 : Int32)), .val (.ref ka2), .val (.int (3 : Int32)), .val (.int (0 : Int32)), .val (.int (0 : Int32))] [(.int (oM (0 : Int32) ia4))]))
  refine W_istoreN B (hb hby d39_45) (pc' := 46) rfl (v := (oM (0 : Int32) ia4)) rfl (ls' := #[.val (.ref ka1), .val (.ref ka2), .val (.int (1 : Int32)), .val (.int (oM (0 : Int32) ia4)), .val (.ref ka2), .val (.int (3 : Int32)), .val (.int (0 : Int32)), .val (.int (0 : Int32))]) rfl ?_
  refine W_iinc B (hb hby d39_46) (pc' := 49) rfl rfl (z := (1 : Int32)) (by decide) (ls' := #[.val (.ref ka1), .val (.ref ka2), .val (.int (1 : Int32)), .val (.int (oM (0 : Int32) ia4)), .val (.ref ka2), .val (.int (3 : Int32)), .val (.int (1 : Int32)), .val (.int (0 : Int32))]) rfl ?_
  refine W_goto B (hb hby d39_49) (by decide) (pc' := 13) (by decide) ?_
  refine W_iload B (hb hby d39_13) (pc' := 15) rfl rfl ?_
  refine W_iload B (hb hby d39_15) (pc' := 17) rfl rfl ?_
  refine W_icmpN B (hb hby d39_17) (pc' := 20) rfl (by decide) ?_
  refine W_aload B (hb hby d39_20) (pc' := 22) rfl rfl rfl ?_
  refine W_iload B (hb hby d39_22) (pc' := 24) rfl rfl ?_
  refine W_iaload B (hb hby d39_24) (pc' := 25) rfl (i := 5) rfl (by decide) (v := (.int (1 : Int32))) rfl ?_
  refine W_istore B (hb hby d39_25) (pc' := 27) rfl (v := (1 : Int32)) rfl (ls' := #[.val (.ref ka1), .val (.ref ka2), .val (.int (1 : Int32)), .val (.int (oM (0 : Int32) ia4)), .val (.ref ka2), .val (.int (3 : Int32)), .val (.int (1 : Int32)), .val (.int (1 : Int32))]) rfl ?_
  refine W_iloadN B (hb hby d39_27) (pc' := 28) rfl rfl ?_
  refine W_aloadN B (hb hby d39_28) (pc' := 29) rfl rfl rfl ?_
  refine W_getfield B hown (host := "") (Or.inl (ow hw (i := 69) rfl)) Via.refl (hb hby d39_29) (pc' := 32) rfl (j := 11) rfl (q := 5) rfl ?_
  intro T B
  refine W_iloadN B (hb hby d39_32) (pc' := 33) rfl rfl ?_
  refine W_aloadN B (hb hby d39_33) (pc' := 34) rfl rfl rfl ?_
  refine W_getfield B hown (host := "") (Or.inl (ow hw (i := 50) rfl)) Via.refl (hb hby d39_34) (pc' := 37) rfl (j := 11) rfl (q := 2) rfl ?_
  intro T B
  refine W_imul B (hb hby d39_37) (pc' := 38) rfl (z := (3 : Int32)) (by decide) ?_
  refine W_iload B (hb hby d39_38) (pc' := 40) rfl rfl ?_
  refine W_iadd B (hb hby d39_40) (pc' := 41) rfl (z := (4 : Int32)) (by decide) ?_
  refine W_iaload B (hb hby d39_41) (pc' := 42) rfl (i := 9) rfl (by decide) (v := (.int ia5)) rfl ?_
  refine W_callS B (y := (⟨"com/example/tanglemark/tanglemark/datalog/Relation", "mix", "(II)I"⟩ : MethodName)) hown (ow hw (i := 229) rfl) (ow hw (i := 230) rfl) (ow hw (i := 3) rfl) (ow hw (i := 231) rfl) (by decide) (rm_a25 l Z a0 hw h0 ia4 ia5 _ ) (lenOf pd_2 rfl) (hb hby d39_42) (pc' := 45) rfl (argsL := [(.int (oM (0 : Int32) ia4)), (.int ia5)]) (rest := []) rfl (by rw [hml]; rfl) (W := 0) (oLe rfl) (by decide) (cells' := 0) rfl (slots' := 0) rfl ?_
  intro T v_ d_ q_ B
  obtain ⟨rfl, rfl⟩ := q_
  show oWin p e below Z h0 _ _ (T.setTop (mkF m 45 #[.val (.ref ka1), .val (.ref ka2), .val (.int (1 : Int32)), .val (.int (oM (0 : Int32) ia4)), .val (.ref ka2), .val (.int (3 : Int32)), .val (.int (1 : Int32)), .val (.int (1 : Int32))] [(.int (oM (oM (0 : Int32) ia4) ia5))]))
  refine W_istoreN B (hb hby d39_45) (pc' := 46) rfl (v := (oM (oM (0 : Int32) ia4) ia5)) rfl (ls' := #[.val (.ref ka1), .val (.ref ka2), .val (.int (1 : Int32)), .val (.int (oM (oM (0 : Int32) ia4) ia5)), .val (.ref ka2), .val (.int (3 : Int32)), .val (.int (1 : Int32)), .val (.int (1 : Int32))]) rfl ?_
  refine W_iinc B (hb hby d39_46) (pc' := 49) rfl rfl (z := (2 : Int32)) (by decide) (ls' := #[.val (.ref ka1), .val (.ref ka2), .val (.int (1 : Int32)), .val (.int (oM (oM (0 : Int32) ia4) ia5)), .val (.ref ka2), .val (.int (3 : Int32)), .val (.int (2 : Int32)), .val (.int (1 : Int32))]) rfl ?_
  refine W_goto B (hb hby d39_49) (by decide) (pc' := 13) (by decide) ?_
  refine W_iload B (hb hby d39_13) (pc' := 15) rfl rfl ?_
  refine W_iload B (hb hby d39_15) (pc' := 17) rfl rfl ?_
  refine W_icmpN B (hb hby d39_17) (pc' := 20) rfl (by decide) ?_
  refine W_aload B (hb hby d39_20) (pc' := 22) rfl rfl rfl ?_
  refine W_iload B (hb hby d39_22) (pc' := 24) rfl rfl ?_
  refine W_iaload B (hb hby d39_24) (pc' := 25) rfl (i := 5) rfl (by decide) (v := (.int (2 : Int32))) rfl ?_
  refine W_istore B (hb hby d39_25) (pc' := 27) rfl (v := (2 : Int32)) rfl (ls' := #[.val (.ref ka1), .val (.ref ka2), .val (.int (1 : Int32)), .val (.int (oM (oM (0 : Int32) ia4) ia5)), .val (.ref ka2), .val (.int (3 : Int32)), .val (.int (2 : Int32)), .val (.int (2 : Int32))]) rfl ?_
  refine W_iloadN B (hb hby d39_27) (pc' := 28) rfl rfl ?_
  refine W_aloadN B (hb hby d39_28) (pc' := 29) rfl rfl rfl ?_
  refine W_getfield B hown (host := "") (Or.inl (ow hw (i := 69) rfl)) Via.refl (hb hby d39_29) (pc' := 32) rfl (j := 11) rfl (q := 5) rfl ?_
  intro T B
  refine W_iloadN B (hb hby d39_32) (pc' := 33) rfl rfl ?_
  refine W_aloadN B (hb hby d39_33) (pc' := 34) rfl rfl rfl ?_
  refine W_getfield B hown (host := "") (Or.inl (ow hw (i := 50) rfl)) Via.refl (hb hby d39_34) (pc' := 37) rfl (j := 11) rfl (q := 2) rfl ?_
  intro T B
  refine W_imul B (hb hby d39_37) (pc' := 38) rfl (z := (3 : Int32)) (by decide) ?_
  refine W_iload B (hb hby d39_38) (pc' := 40) rfl rfl ?_
  refine W_iadd B (hb hby d39_40) (pc' := 41) rfl (z := (5 : Int32)) (by decide) ?_
  refine W_iaload B (hb hby d39_41) (pc' := 42) rfl (i := 9) rfl (by decide) (v := (.int ia6)) rfl ?_
  refine W_callS B (y := (⟨"com/example/tanglemark/tanglemark/datalog/Relation", "mix", "(II)I"⟩ : MethodName)) hown (ow hw (i := 229) rfl) (ow hw (i := 230) rfl) (ow hw (i := 3) rfl) (ow hw (i := 231) rfl) (by decide) (rm_a26 l Z a0 hw h0 ia4 ia5 ia6 _ ) (lenOf pd_2 rfl) (hb hby d39_42) (pc' := 45) rfl (argsL := [(.int (oM (oM (0 : Int32) ia4) ia5)), (.int ia6)]) (rest := []) rfl (by rw [hml]; rfl) (W := 0) (oLe rfl) (by decide) (cells' := 0) rfl (slots' := 0) rfl ?_
  intro T v_ d_ q_ B
  obtain ⟨rfl, rfl⟩ := q_
  show oWin p e below Z h0 _ _ (T.setTop (mkF m 45 #[.val (.ref ka1), .val (.ref ka2), .val (.int (1 : Int32)), .val (.int (oM (oM (0 : Int32) ia4) ia5)), .val (.ref ka2), .val (.int (3 : Int32)), .val (.int (2 : Int32)), .val (.int (2 : Int32))] [(.int (oM (oM (oM (0 : Int32) ia4) ia5) ia6))]))
  refine W_istoreN B (hb hby d39_45) (pc' := 46) rfl (v := (oM (oM (oM (0 : Int32) ia4) ia5) ia6)) rfl (ls' := #[.val (.ref ka1), .val (.ref ka2), .val (.int (1 : Int32)), .val (.int (oM (oM (oM (0 : Int32) ia4) ia5) ia6)), .val (.ref ka2), .val (.int (3 : Int32)), .val (.int (2 : Int32)), .val (.int (2 : Int32))]) rfl ?_
  refine W_iinc B (hb hby d39_46) (pc' := 49) rfl rfl (z := (3 : Int32)) (by decide) (ls' := #[.val (.ref ka1), .val (.ref ka2), .val (.int (1 : Int32)), .val (.int (oM (oM (oM (0 : Int32) ia4) ia5) ia6)), .val (.ref ka2), .val (.int (3 : Int32)), .val (.int (3 : Int32)), .val (.int (2 : Int32))]) rfl ?_
  refine W_goto B (hb hby d39_49) (by decide) (pc' := 13) (by decide) ?_
  refine W_iload B (hb hby d39_13) (pc' := 15) rfl rfl ?_
  refine W_iload B (hb hby d39_15) (pc' := 17) rfl rfl ?_
  refine W_icmpY B (hb hby d39_17) (by decide) (pc' := 52) (by decide) (by decide) ?_
  refine W_iloadN B (hb hby d39_52) (pc' := 53) rfl rfl ?_
  refine W_callS B (y := (⟨"com/example/tanglemark/tanglemark/datalog/Relation", "finish", "(I)I"⟩ : MethodName)) hown (ow hw (i := 233) rfl) (ow hw (i := 234) rfl) (ow hw (i := 3) rfl) (ow hw (i := 235) rfl) (by decide) (rm_a27 l Z a0 hw h0 ia4 ia5 ia6 _ ) (lenOf pd_1 rfl) (hb hby d39_53) (pc' := 56) rfl (argsL := [(.int (oM (oM (oM (0 : Int32) ia4) ia5) ia6))]) (rest := []) rfl (by rw [hml]; rfl) (W := 0) (oLe rfl) (by decide) (cells' := 0) rfl (slots' := 0) rfl ?_
  intro T v_ d_ q_ B
  obtain ⟨rfl, rfl⟩ := q_
  show oWin p e below Z h0 _ _ (T.setTop (mkF m 56 #[.val (.ref ka1), .val (.ref ka2), .val (.int (1 : Int32)), .val (.int (oM (oM (oM (0 : Int32) ia4) ia5) ia6)), .val (.ref ka2), .val (.int (3 : Int32)), .val (.int (3 : Int32)), .val (.int (2 : Int32))] [(.int (oF (oM (oM (oM (0 : Int32) ia4) ia5) ia6)))]))
  refine W_retI B hret (hb hby d39_56) (by decide) ?_
  exact ⟨rfl, rfl⟩
theorem ef_rm_a76 (m : MethodId) (x0 : Addr) (x1 : Addr) : entryFrame m #[(.ref x0), (.ref x1), (.int (1 : Int32))] 4 = mkF m 0 #[.val (.ref x0), .val (.ref x1), .val (.int (1 : Int32)), .unset] [] := by first | (simp [entryFrame, mkF, argsToLocals, Value.category]; done) | rfl
set_option maxRecDepth 65536 in
set_option maxHeartbeats 40000000 in
theorem rm_a76 (l : Launch) (Z : State) (a0 : Array Value) (hw : ∀ d ∈ tables_1, d.before a0 Z = true) (h0 : Heap) {lo : Nat} (ka1 : Addr) (ka2 : Addr) (e0 : Addr × oD) (e1 : Addr × oD) (e2 : Addr × oD) (ka3 : Addr) (ka4 : Addr) (ia1 : Int32) (ia2 : Int32) (ia3 : Int32) (ka5 : Addr) (e7 : Addr × oD) (e8 : Addr × oD) (ka6 : Addr) (ia4 : Int32) (ia5 : Int32) (ia6 : Int32) (e10 : Addr × oD) (ka7 : Addr) (ka8 : Addr) (ka9 : Addr) (ds : oDs) (hy0 : ((oH ia4 ia5 ia6) &&& (15 : Int32)).toNatClampNeg < (oHd0.set ((oH ia1 ia2 ia3) &&& (15 : Int32)).toNatClampNeg (.int (0 : Int32))).length) (hy1 : (oHd0.set ((oH ia1 ia2 ia3) &&& (15 : Int32)).toNatClampNeg (.int (0 : Int32))).length.toInt32 = (16 : Int32)) (hy2 : (oHd0.set ((oH ia1 ia2 ia3) &&& (15 : Int32)).toNatClampNeg (.int (0 : Int32)))[((oH ia4 ia5 ia6) &&& (15 : Int32)).toNatClampNeg]? = some (.int (0 : Int32))) (hy3 : ¬ ((oH ia4 ia5 ia6) &&& (15 : Int32)) < (0 : Int32)) :
    oMet l Z h0 lo (⟨"com/example/tanglemark/tanglemark/datalog/Relation", "link", "(Lcom/example/tanglemark/tanglemark/datalog/Relation$Chains;I)V"⟩ : MethodName) prog_45_method_35_code 4 none [] ({ frames := 2, cells := 0, slots := 0, locals := 32 } : Room) #[(.ref ka1), (.ref ka2), (.int (1 : Int32))] (e0 :: e1 :: e2 :: (ka3, oA .int [(.int (-1 : Int32)), o0, o0, o0, o0, o0, o0, o0, o0, o0, o0, o0, o0, o0, o0, o0]) :: (ka4, oA .int (oHd0.set ((oH ia1 ia2 ia3) &&& (15 : Int32)).toNatClampNeg (.int (0 : Int32)))) :: (ka5, oA .int [o0, (.int (1 : Int32)), (.int (2 : Int32))]) :: (ka2, oO cn3 [(fk18, (.ref ka5)), (fk19, (.ref ka4)), (fk20, (.ref ka3))]) :: e7 :: e8 :: (ka6, oA .int [(.int ia1), (.int ia2), (.int ia3), (.int ia4), (.int ia5), (.int ia6), o0, o0, o0, o0, o0, o0, o0, o0, o0, o0, o0, o0, o0, o0, o0, o0, o0, o0, o0, o0, o0, o0, o0, o0, o0, o0, o0, o0, o0, o0, o0, o0, o0, o0, o0, o0, o0, o0, o0, o0, o0, o0]) :: e10 :: (ka1, oO cn0 [(fk0, (.ref ka7)), (fk1, (.ref ka8)), (fk2, (.int (3 : Int32))), (fk3, (.int (2147483639 : Int32))), (fk4, (.int (1073741824 : Int32))), (fk5, (.ref ka6)), (fk6, (.ref ka9)), (fk7, .null), (fk8, (.int (0 : Int32))), (fk9, (.int (2 : Int32))), (fk10, (.ref ka2))]) :: ds) (fun (v : Option Value) (d : oDs) => (v = none ∧ (e0 :: e1 :: e2 :: (ka3, oA .int [(.int (-1 : Int32)), o0, o0, o0, o0, o0, o0, o0, o0, o0, o0, o0, o0, o0, o0, o0]) :: (ka4, oA .int ((oHd0.set ((oH ia1 ia2 ia3) &&& (15 : Int32)).toNatClampNeg (.int (0 : Int32))).set ((oH ia4 ia5 ia6) &&& (15 : Int32)).toNatClampNeg (.int (1 : Int32)))) :: (ka5, oA .int [o0, (.int (1 : Int32)), (.int (2 : Int32))]) :: (ka2, oO cn3 [(fk18, (.ref ka5)), (fk19, (.ref ka4)), (fk20, (.ref ka3))]) :: e7 :: e8 :: (ka6, oA .int [(.int ia1), (.int ia2), (.int ia3), (.int ia4), (.int ia5), (.int ia6), o0, o0, o0, o0, o0, o0, o0, o0, o0, o0, o0, o0, o0, o0, o0, o0, o0, o0, o0, o0, o0, o0, o0, o0, o0, o0, o0, o0, o0, o0, o0, o0, o0, o0, o0, o0, o0, o0, o0, o0, o0, o0]) :: e10 :: (ka1, oO cn0 [(fk0, (.ref ka7)), (fk1, (.ref ka8)), (fk2, (.int (3 : Int32))), (fk3, (.int (2147483639 : Int32))), (fk4, (.int (1073741824 : Int32))), (fk5, (.ref ka6)), (fk6, (.ref ka9)), (fk7, .null), (fk8, (.int (0 : Int32))), (fk9, (.int (2 : Int32))), (fk10, (.ref ka2))]) :: ds) = d)) := by
  refine oMet.of_body (plainFor_of_name pn_9) ?_
  intro p e s m below meth c T B hby hml hown hnm hret
  refine W_entry (ef_rm_a76 m ka1 ka2) ?_
  refine W_aloadN B (hb hby d38_0) (pc' := 1) rfl rfl rfl ?_
  refine W_aloadN B (hb hby d38_1) (pc' := 2) rfl rfl rfl ?_
  refine W_getfield B hown (host := "") (Or.inl (ow hw (i := 274) rfl)) (Via.of (ow hw (i := 275) rfl)) (hb hby d38_2) (pc' := 5) rfl (j := 6) rfl (q := 0) rfl ?_
  intro T B
  refine W_iloadN B (hb hby d38_5) (pc' := 6) rfl rfl ?_
  refine W_privateS B (y := (⟨"com/example/tanglemark/tanglemark/datalog/Relation", "hashRow", "([II)I"⟩ : MethodName)) hown (ow hw (i := 276) rfl) (ow hw (i := 277) rfl) (ow hw (i := 2) rfl) (ow hw (i := 278) rfl) (ow hw (i := 3) rfl) (ow hw (i := 279) rfl) (by decide) (a := ka1) (rm_a75 l Z a0 hw h0 ka1 ka5 _ _ _ _ _ _ _ _ ka6 ia1 ia2 ia3 ia4 ia5 ia6 _ ka7 ka8 ka9 ka2 _ ) (lenOf pd_22 rfl) (hb hby d38_6) (pc' := 9) rfl (argsL := [(.ref ka5), (.int (1 : Int32))]) (rest := []) rfl (by rw [hml]; rfl) (W := 0) (oLe rfl) (j := 11) rfl (by decide) (cells' := 0) rfl (slots' := 0) rfl ?_
  intro T v_ d_ q_ B
  obtain ⟨rfl, rfl⟩ := q_
  show oWin p e below Z h0 _ _ (T.setTop (mkF m 9 #[.val (.ref ka1), .val (.ref ka2), .val (.int (1 : Int32)), .unset] [(.int (oH ia4 ia5 ia6))]))
  refine W_aloadN B (hb hby d38_9) (pc' := 10) rfl rfl rfl ?_
  refine W_getfieldR B hown (ow hw (i := 239) rfl) (hb hby d38_10) (pc' := 13) rfl (j := 6) rfl (q := 1) rfl ?_
  refine W_arraylength B (hb hby d38_13) (pc' := 14) rfl (j := 4) rfl (z := (16 : Int32)) hy1 ?_
  refine W_iconst B (hb hby d38_14) (pc' := 15) rfl (z := (1 : Int32)) (by decide) ?_
  refine W_isub B (hb hby d38_15) (pc' := 16) rfl (z := (15 : Int32)) (by decide) ?_
  refine W_iand B (hb hby d38_16) (pc' := 17) rfl (z := ((oH ia4 ia5 ia6) &&& (15 : Int32))) rfl ?_
  refine W_istoreN B (hb hby d38_17) (pc' := 18) rfl (v := ((oH ia4 ia5 ia6) &&& (15 : Int32))) rfl (ls' := #[.val (.ref ka1), .val (.ref ka2), .val (.int (1 : Int32)), .val (.int ((oH ia4 ia5 ia6) &&& (15 : Int32)))]) rfl ?_
  refine W_aloadN B (hb hby d38_18) (pc' := 19) rfl rfl rfl ?_
  refine W_getfieldR B hown (ow hw (i := 269) rfl) (hb hby d38_19) (pc' := 22) rfl (j := 6) rfl (q := 2) rfl ?_
  refine W_iloadN B (hb hby d38_22) (pc' := 23) rfl rfl ?_
  refine W_aloadN B (hb hby d38_23) (pc' := 24) rfl rfl rfl ?_
  refine W_getfieldR B hown (ow hw (i := 239) rfl) (hb hby d38_24) (pc' := 27) rfl (j := 6) rfl (q := 1) rfl ?_
  refine W_iloadN B (hb hby d38_27) (pc' := 28) rfl rfl ?_
  refine W_iaload B (hb hby d38_28) (pc' := 29) rfl (i := 4) rfl hy3 (v := (.int (0 : Int32))) hy2 ?_
  refine W_iastore B (hb hby d38_29) (pc' := 30) rfl (i := 3) rfl (by decide) (oLt rfl) (ds' := (e0 :: e1 :: e2 :: (ka3, oA .int [(.int (-1 : Int32)), o0, o0, o0, o0, o0, o0, o0, o0, o0, o0, o0, o0, o0, o0, o0]) :: (ka4, oA .int (oHd0.set ((oH ia1 ia2 ia3) &&& (15 : Int32)).toNatClampNeg (.int (0 : Int32)))) :: (ka5, oA .int [o0, (.int (1 : Int32)), (.int (2 : Int32))]) :: (ka2, oO cn3 [(fk18, (.ref ka5)), (fk19, (.ref ka4)), (fk20, (.ref ka3))]) :: e7 :: e8 :: (ka6, oA .int [(.int ia1), (.int ia2), (.int ia3), (.int ia4), (.int ia5), (.int ia6), o0, o0, o0, o0, o0, o0, o0, o0, o0, o0, o0, o0, o0, o0, o0, o0, o0, o0, o0, o0, o0, o0, o0, o0, o0, o0, o0, o0, o0, o0, o0, o0, o0, o0, o0, o0, o0, o0, o0, o0, o0, o0]) :: e10 :: (ka1, oO cn0 [(fk0, (.ref ka7)), (fk1, (.ref ka8)), (fk2, (.int (3 : Int32))), (fk3, (.int (2147483639 : Int32))), (fk4, (.int (1073741824 : Int32))), (fk5, (.ref ka6)), (fk6, (.ref ka9)), (fk7, .null), (fk8, (.int (0 : Int32))), (fk9, (.int (2 : Int32))), (fk10, (.ref ka2))]) :: ds)) rfl ?_
  intro T B
  refine W_aloadN B (hb hby d38_30) (pc' := 31) rfl rfl rfl ?_
  refine W_getfieldR B hown (ow hw (i := 239) rfl) (hb hby d38_31) (pc' := 34) rfl (j := 6) rfl (q := 1) rfl ?_
  refine W_iloadN B (hb hby d38_34) (pc' := 35) rfl rfl ?_
  refine W_iloadN B (hb hby d38_35) (pc' := 36) rfl rfl ?_
  refine W_iastore B (hb hby d38_36) (pc' := 37) rfl (i := 4) rfl hy3 hy0 (ds' := (e0 :: e1 :: e2 :: (ka3, oA .int [(.int (-1 : Int32)), o0, o0, o0, o0, o0, o0, o0, o0, o0, o0, o0, o0, o0, o0, o0]) :: (ka4, oA .int ((oHd0.set ((oH ia1 ia2 ia3) &&& (15 : Int32)).toNatClampNeg (.int (0 : Int32))).set ((oH ia4 ia5 ia6) &&& (15 : Int32)).toNatClampNeg (.int (1 : Int32)))) :: (ka5, oA .int [o0, (.int (1 : Int32)), (.int (2 : Int32))]) :: (ka2, oO cn3 [(fk18, (.ref ka5)), (fk19, (.ref ka4)), (fk20, (.ref ka3))]) :: e7 :: e8 :: (ka6, oA .int [(.int ia1), (.int ia2), (.int ia3), (.int ia4), (.int ia5), (.int ia6), o0, o0, o0, o0, o0, o0, o0, o0, o0, o0, o0, o0, o0, o0, o0, o0, o0, o0, o0, o0, o0, o0, o0, o0, o0, o0, o0, o0, o0, o0, o0, o0, o0, o0, o0, o0, o0, o0, o0, o0, o0, o0]) :: e10 :: (ka1, oO cn0 [(fk0, (.ref ka7)), (fk1, (.ref ka8)), (fk2, (.int (3 : Int32))), (fk3, (.int (2147483639 : Int32))), (fk4, (.int (1073741824 : Int32))), (fk5, (.ref ka6)), (fk6, (.ref ka9)), (fk7, .null), (fk8, (.int (0 : Int32))), (fk9, (.int (2 : Int32))), (fk10, (.ref ka2))]) :: ds)) rfl ?_
  intro T B
  refine W_retV B hret (hb hby d38_37) (by decide) ?_
  exact ⟨rfl, rfl⟩
theorem ef_rm_a77 (m : MethodId) (x0 : Addr) (x1 : Addr) : entryFrame m #[(.ref x0), (.ref x1), (.int (1 : Int32))] 4 = mkF m 0 #[.val (.ref x0), .val (.ref x1), .val (.int (1 : Int32)), .unset] [] := by first | (simp [entryFrame, mkF, argsToLocals, Value.category]; done) | rfl
set_option maxRecDepth 65536 in
set_option maxHeartbeats 40000000 in
theorem rm_a77 (l : Launch) (Z : State) (a0 : Array Value) (hw : ∀ d ∈ tables_1, d.before a0 Z = true) (h0 : Heap) {lo : Nat} (ka1 : Addr) (ka2 : Addr) (e0 : Addr × oD) (e1 : Addr × oD) (e2 : Addr × oD) (ka3 : Addr) (ka4 : Addr) (ia1 : Int32) (ia2 : Int32) (ia3 : Int32) (ka5 : Addr) (e7 : Addr × oD) (e8 : Addr × oD) (ka6 : Addr) (ia4 : Int32) (ia5 : Int32) (ia6 : Int32) (e10 : Addr × oD) (ka7 : Addr) (ka8 : Addr) (ka9 : Addr) (ds : oDs) (hy0 : ((oH ia4 ia5 ia6) &&& (15 : Int32)).toNatClampNeg < (oHd0.set ((oH ia1 ia2 ia3) &&& (15 : Int32)).toNatClampNeg (.int (0 : Int32))).length) (hy1 : (oHd0.set ((oH ia1 ia2 ia3) &&& (15 : Int32)).toNatClampNeg (.int (0 : Int32))).length.toInt32 = (16 : Int32)) (hy2 : (oHd0.set ((oH ia1 ia2 ia3) &&& (15 : Int32)).toNatClampNeg (.int (0 : Int32)))[((oH ia4 ia5 ia6) &&& (15 : Int32)).toNatClampNeg]? = some (.int (0 : Int32))) (hy3 : ¬ ((oH ia4 ia5 ia6) &&& (15 : Int32)) < (0 : Int32)) :
    oMet l Z h0 lo (⟨"com/example/tanglemark/tanglemark/datalog/Relation", "insert", "(Lcom/example/tanglemark/tanglemark/datalog/Relation$Chains;I)V"⟩ : MethodName) prog_45_method_34_code 4 none [] ({ frames := 3, cells := 0, slots := 0, locals := 47 } : Room) #[(.ref ka1), (.ref ka2), (.int (1 : Int32))] (e0 :: e1 :: e2 :: (ka3, oA .int [(.int (-1 : Int32)), o0, o0, o0, o0, o0, o0, o0, o0, o0, o0, o0, o0, o0, o0, o0]) :: (ka4, oA .int (oHd0.set ((oH ia1 ia2 ia3) &&& (15 : Int32)).toNatClampNeg (.int (0 : Int32)))) :: (ka5, oA .int [o0, (.int (1 : Int32)), (.int (2 : Int32))]) :: (ka2, oO cn3 [(fk18, (.ref ka5)), (fk19, (.ref ka4)), (fk20, (.ref ka3))]) :: e7 :: e8 :: (ka6, oA .int [(.int ia1), (.int ia2), (.int ia3), (.int ia4), (.int ia5), (.int ia6), o0, o0, o0, o0, o0, o0, o0, o0, o0, o0, o0, o0, o0, o0, o0, o0, o0, o0, o0, o0, o0, o0, o0, o0, o0, o0, o0, o0, o0, o0, o0, o0, o0, o0, o0, o0, o0, o0, o0, o0, o0, o0]) :: e10 :: (ka1, oO cn0 [(fk0, (.ref ka7)), (fk1, (.ref ka8)), (fk2, (.int (3 : Int32))), (fk3, (.int (2147483639 : Int32))), (fk4, (.int (1073741824 : Int32))), (fk5, (.ref ka6)), (fk6, (.ref ka9)), (fk7, .null), (fk8, (.int (0 : Int32))), (fk9, (.int (2 : Int32))), (fk10, (.ref ka2))]) :: ds) (fun (v : Option Value) (d : oDs) => (v = none ∧ (e0 :: e1 :: e2 :: (ka3, oA .int [(.int (-1 : Int32)), o0, o0, o0, o0, o0, o0, o0, o0, o0, o0, o0, o0, o0, o0, o0]) :: (ka4, oA .int ((oHd0.set ((oH ia1 ia2 ia3) &&& (15 : Int32)).toNatClampNeg (.int (0 : Int32))).set ((oH ia4 ia5 ia6) &&& (15 : Int32)).toNatClampNeg (.int (1 : Int32)))) :: (ka5, oA .int [o0, (.int (1 : Int32)), (.int (2 : Int32))]) :: (ka2, oO cn3 [(fk18, (.ref ka5)), (fk19, (.ref ka4)), (fk20, (.ref ka3))]) :: e7 :: e8 :: (ka6, oA .int [(.int ia1), (.int ia2), (.int ia3), (.int ia4), (.int ia5), (.int ia6), o0, o0, o0, o0, o0, o0, o0, o0, o0, o0, o0, o0, o0, o0, o0, o0, o0, o0, o0, o0, o0, o0, o0, o0, o0, o0, o0, o0, o0, o0, o0, o0, o0, o0, o0, o0, o0, o0, o0, o0, o0, o0]) :: e10 :: (ka1, oO cn0 [(fk0, (.ref ka7)), (fk1, (.ref ka8)), (fk2, (.int (3 : Int32))), (fk3, (.int (2147483639 : Int32))), (fk4, (.int (1073741824 : Int32))), (fk5, (.ref ka6)), (fk6, (.ref ka9)), (fk7, .null), (fk8, (.int (0 : Int32))), (fk9, (.int (2 : Int32))), (fk10, (.ref ka2))]) :: ds) = d)) := by
  refine oMet.of_body (plainFor_of_name pn_9) ?_
  intro p e s m below meth c T B hby hml hown hnm hret
  refine W_entry (ef_rm_a77 m ka1 ka2) ?_
  refine W_iloadN B (hb hby d37_0) (pc' := 1) rfl rfl ?_
  refine W_aloadN B (hb hby d37_1) (pc' := 2) rfl rfl rfl ?_
  refine W_getfieldR B hown (ow hw (i := 269) rfl) (hb hby d37_2) (pc' := 5) rfl (j := 6) rfl (q := 2) rfl ?_
  refine W_arraylength B (hb hby d37_5) (pc' := 6) rfl (j := 3) rfl (z := (16 : Int32)) rfl ?_
  refine W_icmpY B (hb hby d37_6) (by decide) (pc' := 39) (by decide) (by decide) ?_
  refine W_iloadN B (hb hby d37_39) (pc' := 40) rfl rfl ?_
  refine W_aloadN B (hb hby d37_40) (pc' := 41) rfl rfl rfl ?_
  refine W_getfieldR B hown (ow hw (i := 239) rfl) (hb hby d37_41) (pc' := 44) rfl (j := 6) rfl (q := 1) rfl ?_
  refine W_arraylength B (hb hby d37_44) (pc' := 45) rfl (j := 4) rfl (z := (16 : Int32)) hy1 ?_
  refine W_icmpY B (hb hby d37_45) (by decide) (pc' := 100) (by decide) (by decide) ?_
  refine W_aloadN B (hb hby d37_100) (pc' := 101) rfl rfl rfl ?_
  refine W_aloadN B (hb hby d37_101) (pc' := 102) rfl rfl rfl ?_
  refine W_iloadN B (hb hby d37_102) (pc' := 103) rfl rfl ?_
  refine W_privateS B (y := (⟨"com/example/tanglemark/tanglemark/datalog/Relation", "link", "(Lcom/example/tanglemark/tanglemark/datalog/Relation$Chains;I)V"⟩ : MethodName)) hown (ow hw (i := 270) rfl) (ow hw (i := 271) rfl) (ow hw (i := 2) rfl) (ow hw (i := 272) rfl) (ow hw (i := 3) rfl) (ow hw (i := 273) rfl) (by decide) (a := ka1) (rm_a76 l Z a0 hw h0 ka1 ka2 _ _ _ ka3 ka4 ia1 ia2 ia3 ka5 _ _ ka6 ia4 ia5 ia6 _ ka7 ka8 ka9 _ hy0 hy1 hy2 hy3) (lenOf pd_23 rfl) (hb hby d37_103) (pc' := 106) rfl (argsL := [(.ref ka2), (.int (1 : Int32))]) (rest := []) rfl (by rw [hml]; rfl) (W := 0) (oLe rfl) (j := 11) rfl (by decide) (cells' := 0) rfl (slots' := 0) rfl ?_
  intro T v_ d_ q_ B
  obtain ⟨rfl, rfl⟩ := q_
  show oWin p e below Z h0 _ _ (T.setTop (mkF m 106 #[.val (.ref ka1), .val (.ref ka2), .val (.int (1 : Int32)), .unset] []))
  refine W_retV B hret (hb hby d37_106) (by decide) ?_
  exact ⟨rfl, rfl⟩
theorem ef_rm_a78 (m : MethodId) (x0 : Addr) : entryFrame m #[(.ref x0)] 1 = mkF m 0 #[.val (.ref x0)] [] := by first | (simp [entryFrame, mkF, argsToLocals, Value.category]; done) | rfl
set_option maxRecDepth 65536 in
set_option maxHeartbeats 40000000 in
theorem rm_a78 (l : Launch) (Z : State) (a0 : Array Value) (hw : ∀ d ∈ tables_1, d.before a0 Z = true) (h0 : Heap) {lo : Nat} (ka1 : Addr) (ka2 : Addr) (e1 : Addr × oD) (e2 : Addr × oD) (e3 : Addr × oD) (e4 : Addr × oD) (e5 : Addr × oD) (e6 : Addr × oD) (e7 : Addr × oD) (e8 : Addr × oD) (e9 : Addr × oD) (ka3 : Addr) (ds : oDs) :
    oMet l Z h0 lo (⟨"java/util/ArrayList$Itr", "hasNext", "()Z"⟩ : MethodName) jdk_49_method_2_code 1 (some .boolean) [] ({ frames := 0, cells := 0, slots := 0, locals := 0 } : Room) #[(.ref ka1)] ((ka1, oO cn2 [(fk14, (.ref ka2)), (fk15, (.int (0 : Int32))), (fk16, (.int (1 : Int32))), (fk17, (.int (1 : Int32)))]) :: e1 :: e2 :: e3 :: e4 :: e5 :: e6 :: e7 :: e8 :: e9 :: (ka2, oO cn1 [(fk11, (.int (1 : Int32))), (fk12, (.ref ka3)), (fk13, (.int (1 : Int32)))]) :: ds) (fun (v : Option Value) (d : oDs) => (v = some (.int (0 : Int32)) ∧ ((ka1, oO cn2 [(fk14, (.ref ka2)), (fk15, (.int (0 : Int32))), (fk16, (.int (1 : Int32))), (fk17, (.int (1 : Int32)))]) :: e1 :: e2 :: e3 :: e4 :: e5 :: e6 :: e7 :: e8 :: e9 :: (ka2, oO cn1 [(fk11, (.int (1 : Int32))), (fk12, (.ref ka3)), (fk13, (.int (1 : Int32)))]) :: ds) = d)) := by
  refine oMet.of_body (plainFor_of_name pn_6) ?_
  intro p e s m below meth c T B hby hml hown hnm hret
  refine W_entry (ef_rm_a78 m ka1) ?_
  refine W_aloadN B (hb hby d16_0) (pc' := 1) rfl rfl rfl ?_
  refine W_getfield B hown (host := "") (Or.inl (ow hw (i := 128) rfl)) Via.refl (hb hby d16_1) (pc' := 4) rfl (j := 0) rfl (q := 3) rfl ?_
  intro T B
  refine W_aloadN B (hb hby d16_4) (pc' := 5) rfl rfl rfl ?_
  refine W_getfield B hown (host := "") (Or.inl (ow hw (i := 110) rfl)) Via.refl (hb hby d16_5) (pc' := 8) rfl (j := 0) rfl (q := 0) rfl ?_
  intro T B
  refine W_getfield B hown (Or.inr (ow hw (i := 130) rfl)) Via.refl (hb hby d16_8) (pc' := 11) rfl (j := 10) rfl (q := 2) rfl ?_
  intro T B
  refine W_icmpY B (hb hby d16_11) (by decide) (pc' := 18) (by decide) (by decide) ?_
  refine W_iconst B (hb hby d16_18) (pc' := 19) rfl (z := (0 : Int32)) (by decide) ?_
  refine W_retN B hret (by simp) (hb hby d16_19) (by decide) ?_
  exact ⟨rfl, rfl⟩
theorem ef_rm_a79 (m : MethodId) (x0 : Addr) (x1 : Addr) : entryFrame m #[(.ref x0), (.ref x1)] 5 = mkF m 0 #[.val (.ref x0), .val (.ref x1), .unset, .unset, .unset] [] := by first | (simp [entryFrame, mkF, argsToLocals, Value.category]; done) | rfl
set_option maxRecDepth 65536 in
set_option maxHeartbeats 40000000 in
theorem rm_a79 (l : Launch) (Z : State) (a0 : Array Value) (hw : ∀ d ∈ tables_1, d.before a0 Z = true) (h0 : Heap) {lo : Nat} (ka1 : Addr) (ka2 : Addr) (e0 : Addr × oD) (ka3 : Addr) (ka4 : Addr) (ka5 : Addr) (ka6 : Addr) (ia1 : Int32) (ia2 : Int32) (ia3 : Int32) (ka7 : Addr) (e6 : Addr × oD) (e7 : Addr × oD) (ka8 : Addr) (ka9 : Addr) (ka10 : Addr) (ka11 : Addr) (e11 : Addr × oD) (e12 : Addr × oD) (ia4 : Int32) (ia5 : Int32) (ia6 : Int32) (ds : oDs) (hy0 : ((oH ia4 ia5 ia6) &&& (15 : Int32)).toNatClampNeg < (oHd0.set ((oH ia1 ia2 ia3) &&& (15 : Int32)).toNatClampNeg (.int (0 : Int32))).length) (hy1 : (oHd0.set ((oH ia1 ia2 ia3) &&& (15 : Int32)).toNatClampNeg (.int (0 : Int32))).length.toInt32 = (16 : Int32)) (hy2 : (oHd0.set ((oH ia1 ia2 ia3) &&& (15 : Int32)).toNatClampNeg (.int (0 : Int32)))[((oH ia4 ia5 ia6) &&& (15 : Int32)).toNatClampNeg]? = some (.int (0 : Int32))) (hy3 : ¬ ((oH ia4 ia5 ia6) &&& (15 : Int32)) < (0 : Int32)) :
    oMet l Z h0 lo (⟨"com/example/tanglemark/tanglemark/datalog/Relation", "append", "([I)V"⟩ : MethodName) prog_45_method_9_code 5 none [] ({ frames := 4, cells := 1, slots := 4, locals := 62 } : Room) #[(.ref ka1), (.ref ka2)] (e0 :: (ka3, oA (.object "java/lang/Object") [(.ref ka4), .null, .null, .null, .null, .null, .null, .null, .null, .null]) :: (ka5, oA .int [(.int (-1 : Int32)), o0, o0, o0, o0, o0, o0, o0, o0, o0, o0, o0, o0, o0, o0, o0]) :: (ka6, oA .int (oHd0.set ((oH ia1 ia2 ia3) &&& (15 : Int32)).toNatClampNeg (.int (0 : Int32)))) :: (ka7, oA .int [o0, (.int (1 : Int32)), (.int (2 : Int32))]) :: (ka4, oO cn3 [(fk18, (.ref ka7)), (fk19, (.ref ka6)), (fk20, (.ref ka5))]) :: e6 :: e7 :: (ka8, oA .int [(.int ia1), (.int ia2), (.int ia3), o0, o0, o0, o0, o0, o0, o0, o0, o0, o0, o0, o0, o0, o0, o0, o0, o0, o0, o0, o0, o0, o0, o0, o0, o0, o0, o0, o0, o0, o0, o0, o0, o0, o0, o0, o0, o0, o0, o0, o0, o0, o0, o0, o0, o0]) :: (ka9, oO cn1 [(fk11, (.int (1 : Int32))), (fk12, (.ref ka3)), (fk13, (.int (1 : Int32)))]) :: (ka1, oO cn0 [(fk0, (.ref ka9)), (fk1, (.ref ka10)), (fk2, (.int (3 : Int32))), (fk3, (.int (2147483639 : Int32))), (fk4, (.int (1073741824 : Int32))), (fk5, (.ref ka8)), (fk6, (.ref ka11)), (fk7, .null), (fk8, (.int (0 : Int32))), (fk9, (.int (1 : Int32))), (fk10, (.ref ka4))]) :: e11 :: e12 :: (ka2, oA .int [(.int ia4), (.int ia5), (.int ia6)]) :: ds) (fun (v : Option Value) (d : oDs) => (∃ (b174 : Addr), v = none ∧ ((b174, oO cn2 [(fk14, (.ref ka9)), (fk15, (.int (0 : Int32))), (fk16, (.int (1 : Int32))), (fk17, (.int (1 : Int32)))]) :: e0 :: (ka3, oA (.object "java/lang/Object") [(.ref ka4), .null, .null, .null, .null, .null, .null, .null, .null, .null]) :: (ka5, oA .int [(.int (-1 : Int32)), o0, o0, o0, o0, o0, o0, o0, o0, o0, o0, o0, o0, o0, o0, o0]) :: (ka6, oA .int ((oHd0.set ((oH ia1 ia2 ia3) &&& (15 : Int32)).toNatClampNeg (.int (0 : Int32))).set ((oH ia4 ia5 ia6) &&& (15 : Int32)).toNatClampNeg (.int (1 : Int32)))) :: (ka7, oA .int [o0, (.int (1 : Int32)), (.int (2 : Int32))]) :: (ka4, oO cn3 [(fk18, (.ref ka7)), (fk19, (.ref ka6)), (fk20, (.ref ka5))]) :: e6 :: e7 :: (ka8, oA .int [(.int ia1), (.int ia2), (.int ia3), (.int ia4), (.int ia5), (.int ia6), o0, o0, o0, o0, o0, o0, o0, o0, o0, o0, o0, o0, o0, o0, o0, o0, o0, o0, o0, o0, o0, o0, o0, o0, o0, o0, o0, o0, o0, o0, o0, o0, o0, o0, o0, o0, o0, o0, o0, o0, o0, o0]) :: (ka9, oO cn1 [(fk11, (.int (1 : Int32))), (fk12, (.ref ka3)), (fk13, (.int (1 : Int32)))]) :: (ka1, oO cn0 [(fk0, (.ref ka9)), (fk1, (.ref ka10)), (fk2, (.int (3 : Int32))), (fk3, (.int (2147483639 : Int32))), (fk4, (.int (1073741824 : Int32))), (fk5, (.ref ka8)), (fk6, (.ref ka11)), (fk7, .null), (fk8, (.int (0 : Int32))), (fk9, (.int (2 : Int32))), (fk10, (.ref ka4))]) :: e11 :: e12 :: (ka2, oA .int [(.int ia4), (.int ia5), (.int ia6)]) :: ds) = d)) := by
  refine oMet.of_body (plainFor_of_name pn_9) ?_
  intro p e s m below meth c T B hby hml hown hnm hret
  refine W_entry (ef_rm_a79 m ka1 ka2) ?_
  refine W_aloadN B (hb hby d34_0) (pc' := 1) rfl rfl rfl ?_
  refine W_privateS B (y := (⟨"com/example/tanglemark/tanglemark/datalog/Relation", "requireOpen", "()V"⟩ : MethodName)) hown (ow hw (i := 217) rfl) (ow hw (i := 218) rfl) (ow hw (i := 2) rfl) (ow hw (i := 219) rfl) (ow hw (i := 3) rfl) (ow hw (i := 220) rfl) (by decide) (a := ka1) (rm_a44 l Z a0 hw h0 ka1 _ _ _ _ _ _ _ _ _ _ ka9 ka10 ka8 ka11 ka4 _ ) (lenOf pd_0 rfl) (hb hby d34_1) (pc' := 4) rfl (argsL := []) (rest := []) rfl (by rw [hml]; rfl) (W := 0) (oLe rfl) (j := 10) rfl (by decide) (cells' := 0) rfl (slots' := 0) rfl ?_
  intro T v_ d_ q_ B
  obtain ⟨rfl, rfl⟩ := q_
  show oWin p e below Z h0 _ _ (T.setTop (mkF m 4 #[.val (.ref ka1), .val (.ref ka2), .unset, .unset, .unset] []))
  refine W_aloadN B (hb hby d34_4) (pc' := 5) rfl rfl rfl ?_
  refine W_getfield B hown (host := "") (Or.inl (ow hw (i := 198) rfl)) Via.refl (hb hby d34_5) (pc' := 8) rfl (j := 10) rfl (q := 9) rfl ?_
  intro T B
  refine W_iconst B (hb hby d34_8) (pc' := 9) rfl (z := (1 : Int32)) (by decide) ?_
  refine W_iadd B (hb hby d34_9) (pc' := 10) rfl (z := (2 : Int32)) (by decide) ?_
  refine W_i2l B (hb hby d34_10) (pc' := 11) rfl (z := (2 : Int64)) (by decide) ?_
  refine W_aloadN B (hb hby d34_11) (pc' := 12) rfl rfl rfl ?_
  refine W_getfield B hown (host := "") (Or.inl (ow hw (i := 50) rfl)) Via.refl (hb hby d34_12) (pc' := 15) rfl (j := 10) rfl (q := 2) rfl ?_
  intro T B
  refine W_i2l B (hb hby d34_15) (pc' := 16) rfl (z := (3 : Int64)) (by decide) ?_
  refine W_lmul B (hb hby d34_16) (pc' := 17) rfl (z := (6 : Int64)) (by decide) ?_
  refine W_aloadN B (hb hby d34_17) (pc' := 18) rfl rfl rfl ?_
  refine W_getfield B hown (host := "") (Or.inl (ow hw (i := 69) rfl)) Via.refl (hb hby d34_18) (pc' := 21) rfl (j := 10) rfl (q := 5) rfl ?_
  intro T B
  refine W_arraylength B (hb hby d34_21) (pc' := 22) rfl (j := 8) rfl (z := (48 : Int32)) rfl ?_
  refine W_i2l B (hb hby d34_22) (pc' := 23) rfl (z := (48 : Int64)) (by decide) ?_
  refine W_lcmpY_le B (hb hby d34_23) (hb hby d34_24) (by decide) (pc' := 85) (by decide) (by decide) ?_
  refine W_aloadN B (hb hby d34_85) (pc' := 86) rfl rfl rfl ?_
  refine W_iconst B (hb hby d34_86) (pc' := 87) rfl (z := (0 : Int32)) (by decide) ?_
  refine W_aloadN B (hb hby d34_87) (pc' := 88) rfl rfl rfl ?_
  refine W_getfield B hown (host := "") (Or.inl (ow hw (i := 69) rfl)) Via.refl (hb hby d34_88) (pc' := 91) rfl (j := 10) rfl (q := 5) rfl ?_
  intro T B
  refine W_aloadN B (hb hby d34_91) (pc' := 92) rfl rfl rfl ?_
  refine W_getfield B hown (host := "") (Or.inl (ow hw (i := 198) rfl)) Via.refl (hb hby d34_92) (pc' := 95) rfl (j := 10) rfl (q := 9) rfl ?_
  intro T B
  refine W_aloadN B (hb hby d34_95) (pc' := 96) rfl rfl rfl ?_
  refine W_getfield B hown (host := "") (Or.inl (ow hw (i := 50) rfl)) Via.refl (hb hby d34_96) (pc' := 99) rfl (j := 10) rfl (q := 2) rfl ?_
  intro T B
  refine W_imul B (hb hby d34_99) (pc' := 100) rfl (z := (3 : Int32)) (by decide) ?_
  refine W_aloadN B (hb hby d34_100) (pc' := 101) rfl rfl rfl ?_
  refine W_getfield B hown (host := "") (Or.inl (ow hw (i := 50) rfl)) Via.refl (hb hby d34_101) (pc' := 104) rfl (j := 10) rfl (q := 2) rfl ?_
  intro T B
  refine W_arraycopy B (j1 := 13) (j2 := 8) (z := (3 : Int32)) (z' := (48 : Int32)) (sp := (0 : Int32)) (dp := (3 : Int32)) (nn := (3 : Int32)) hown (ow hw (i := 245) rfl) (ow hw (i := 248) rfl) (ow hw (i := 246) rfl) (ow hw (i := 247) rfl) (hb hby d34_104) (pc' := 107) rfl (by rw [hml]; rfl) rfl rfl ⟨by decide, rfl⟩ ⟨by decide, rfl⟩ (by decide) ⟨oLe rfl, oLe rfl⟩ rfl (ds' := (e0 :: (ka3, oA (.object "java/lang/Object") [(.ref ka4), .null, .null, .null, .null, .null, .null, .null, .null, .null]) :: (ka5, oA .int [(.int (-1 : Int32)), o0, o0, o0, o0, o0, o0, o0, o0, o0, o0, o0, o0, o0, o0, o0]) :: (ka6, oA .int (oHd0.set ((oH ia1 ia2 ia3) &&& (15 : Int32)).toNatClampNeg (.int (0 : Int32)))) :: (ka7, oA .int [o0, (.int (1 : Int32)), (.int (2 : Int32))]) :: (ka4, oO cn3 [(fk18, (.ref ka7)), (fk19, (.ref ka6)), (fk20, (.ref ka5))]) :: e6 :: e7 :: (ka8, oA .int [(.int ia1), (.int ia2), (.int ia3), (.int ia4), (.int ia5), (.int ia6), o0, o0, o0, o0, o0, o0, o0, o0, o0, o0, o0, o0, o0, o0, o0, o0, o0, o0, o0, o0, o0, o0, o0, o0, o0, o0, o0, o0, o0, o0, o0, o0, o0, o0, o0, o0, o0, o0, o0, o0, o0, o0]) :: (ka9, oO cn1 [(fk11, (.int (1 : Int32))), (fk12, (.ref ka3)), (fk13, (.int (1 : Int32)))]) :: (ka1, oO cn0 [(fk0, (.ref ka9)), (fk1, (.ref ka10)), (fk2, (.int (3 : Int32))), (fk3, (.int (2147483639 : Int32))), (fk4, (.int (1073741824 : Int32))), (fk5, (.ref ka8)), (fk6, (.ref ka11)), (fk7, .null), (fk8, (.int (0 : Int32))), (fk9, (.int (1 : Int32))), (fk10, (.ref ka4))]) :: e11 :: e12 :: (ka2, oA .int [(.int ia4), (.int ia5), (.int ia6)]) :: ds)) rfl (W := 0) (oLe rfl) (by decide) ?_
  intro T B
  refine W_aloadN B (hb hby d34_107) (pc' := 108) rfl rfl rfl ?_
  refine W_dup B (hb hby d34_108) (pc' := 109) rfl rfl ?_
  refine W_getfield B hown (host := "") (Or.inl (ow hw (i := 198) rfl)) Via.refl (hb hby d34_109) (pc' := 112) rfl (j := 10) rfl (q := 9) rfl ?_
  intro T B
  refine W_dupX1 B (hb hby d34_112) (pc' := 113) rfl rfl rfl ?_
  refine W_iconst B (hb hby d34_113) (pc' := 114) rfl (z := (1 : Int32)) (by decide) ?_
  refine W_iadd B (hb hby d34_114) (pc' := 115) rfl (z := (2 : Int32)) (by decide) ?_
  refine W_putfield B hown (host := "") (Or.inl (ow hw (i := 198) rfl)) Via.refl (hb hby d34_115) (pc' := 118) rfl (Or.inl (ow hw (i := 199) rfl)) (ow hw (i := 2) rfl) (ty := .int) (by decide) rfl rfl (j := 10) rfl (q := 9) rfl (ds' := (e0 :: (ka3, oA (.object "java/lang/Object") [(.ref ka4), .null, .null, .null, .null, .null, .null, .null, .null, .null]) :: (ka5, oA .int [(.int (-1 : Int32)), o0, o0, o0, o0, o0, o0, o0, o0, o0, o0, o0, o0, o0, o0, o0]) :: (ka6, oA .int (oHd0.set ((oH ia1 ia2 ia3) &&& (15 : Int32)).toNatClampNeg (.int (0 : Int32)))) :: (ka7, oA .int [o0, (.int (1 : Int32)), (.int (2 : Int32))]) :: (ka4, oO cn3 [(fk18, (.ref ka7)), (fk19, (.ref ka6)), (fk20, (.ref ka5))]) :: e6 :: e7 :: (ka8, oA .int [(.int ia1), (.int ia2), (.int ia3), (.int ia4), (.int ia5), (.int ia6), o0, o0, o0, o0, o0, o0, o0, o0, o0, o0, o0, o0, o0, o0, o0, o0, o0, o0, o0, o0, o0, o0, o0, o0, o0, o0, o0, o0, o0, o0, o0, o0, o0, o0, o0, o0, o0, o0, o0, o0, o0, o0]) :: (ka9, oO cn1 [(fk11, (.int (1 : Int32))), (fk12, (.ref ka3)), (fk13, (.int (1 : Int32)))]) :: (ka1, oO cn0 [(fk0, (.ref ka9)), (fk1, (.ref ka10)), (fk2, (.int (3 : Int32))), (fk3, (.int (2147483639 : Int32))), (fk4, (.int (1073741824 : Int32))), (fk5, (.ref ka8)), (fk6, (.ref ka11)), (fk7, .null), (fk8, (.int (0 : Int32))), (fk9, (.int (2 : Int32))), (fk10, (.ref ka4))]) :: e11 :: e12 :: (ka2, oA .int [(.int ia4), (.int ia5), (.int ia6)]) :: ds)) rfl ?_
  intro T B
  refine W_istoreN B (hb hby d34_118) (pc' := 119) rfl (v := (1 : Int32)) rfl (ls' := #[.val (.ref ka1), .val (.ref ka2), .val (.int (1 : Int32)), .unset, .unset]) rfl ?_
  refine W_aloadN B (hb hby d34_119) (pc' := 120) rfl rfl rfl ?_
  refine W_getfield B hown (host := "") (Or.inl (ow hw (i := 46) rfl)) Via.refl (hb hby d34_120) (pc' := 123) rfl (j := 10) rfl (q := 0) rfl ?_
  intro T B
  refine W_iface B (xi := (⟨"java/util/List", "iterator", "()Ljava/util/Iterator;"⟩ : MethodName)) (y := (⟨"java/util/ArrayList", "iterator", "()Ljava/util/Iterator;"⟩ : MethodName)) hown (ow hw (i := 94) rfl) (ow hw (i := 95) rfl) (ow hw (i := 96) rfl) (ow hw (i := 97) rfl) (ow hw (i := 98) rfl) (ow hw (i := 99) rfl) (ow hw (i := 100) rfl) (ow hw (i := 101) rfl) (ow hw (i := 24) rfl) (ow hw (i := 102) rfl) (by decide) (a := ka9) (rm_a71 l Z a0 hw h0 ka9 _ _ _ _ _ _ _ _ _ ka3 _ ) (lenOf pd_6 rfl) (hb hby d34_123) (pc' := 128) rfl (argsL := []) (rest := []) rfl (by rw [hml]; rfl) (W := 0) (oLe rfl) (j := 9) rfl (by decide) (cells' := 1) rfl (slots' := 4) rfl ?_
  intro T v_ d_ q_ B
  obtain ⟨b174, rfl, rfl⟩ := q_
  show oWin p e below Z h0 _ _ (T.setTop (mkF m 128 #[.val (.ref ka1), .val (.ref ka2), .val (.int (1 : Int32)), .unset, .unset] [(.ref b174)]))
  refine W_astoreN B (hb hby d34_128) (pc' := 129) rfl rfl (ls' := #[.val (.ref ka1), .val (.ref ka2), .val (.int (1 : Int32)), .val (.ref b174), .unset]) rfl ?_
  refine W_aloadN B (hb hby d34_129) (pc' := 130) rfl rfl rfl ?_
  refine W_iface B (xi := (⟨"java/util/Iterator", "hasNext", "()Z"⟩ : MethodName)) (y := (⟨"java/util/ArrayList$Itr", "hasNext", "()Z"⟩ : MethodName)) hown (ow hw (i := 119) rfl) (ow hw (i := 120) rfl) (ow hw (i := 121) rfl) (ow hw (i := 122) rfl) (ow hw (i := 123) rfl) (ow hw (i := 124) rfl) (ow hw (i := 125) rfl) (ow hw (i := 126) rfl) (ow hw (i := 105) rfl) (ow hw (i := 127) rfl) (by decide) (a := b174) (rm_a72 l Z a0 hw h0 b174 ka9 _ _ _ _ _ _ _ _ _ ka3 _ ) (lenOf pd_7 rfl) (hb hby d34_130) (pc' := 135) rfl (argsL := []) (rest := []) rfl (by rw [hml]; rfl) (W := 0) (oLe rfl) (j := 0) rfl (by decide) (cells' := 1) rfl (slots' := 4) rfl ?_
  intro T v_ d_ q_ B
  obtain ⟨rfl, rfl⟩ := q_
  show oWin p e below Z h0 _ _ (T.setTop (mkF m 135 #[.val (.ref ka1), .val (.ref ka2), .val (.int (1 : Int32)), .val (.ref b174), .unset] [(.int (1 : Int32))]))
  refine W_ifN B (hb hby d34_135) (pc' := 138) rfl (by decide) ?_
  refine W_aloadN B (hb hby d34_138) (pc' := 139) rfl rfl rfl ?_
  refine W_iface B (xi := (⟨"java/util/Iterator", "next", "()Ljava/lang/Object;"⟩ : MethodName)) (y := (⟨"java/util/ArrayList$Itr", "next", "()Ljava/lang/Object;"⟩ : MethodName)) hown (ow hw (i := 249) rfl) (ow hw (i := 250) rfl) (ow hw (i := 251) rfl) (ow hw (i := 252) rfl) (ow hw (i := 253) rfl) (ow hw (i := 254) rfl) (ow hw (i := 255) rfl) (ow hw (i := 126) rfl) (ow hw (i := 105) rfl) (ow hw (i := 256) rfl) (by decide) (a := b174) (rm_a74 l Z a0 hw h0 b174 ka9 _ ka3 ka4 _ _ _ _ _ _ _ _ ) (lenOf pd_21 rfl) (hb hby d34_139) (pc' := 144) rfl (argsL := []) (rest := []) rfl (by rw [hml]; rfl) (W := 0) (oLe rfl) (j := 0) rfl (by decide) (cells' := 1) rfl (slots' := 4) rfl ?_
  intro T v_ d_ q_ B
  obtain ⟨rfl, rfl⟩ := q_
  show oWin p e below Z h0 _ _ (T.setTop (mkF m 144 #[.val (.ref ka1), .val (.ref ka2), .val (.int (1 : Int32)), .val (.ref b174), .unset] [(.ref ka4)]))
  refine W_castObj B hown (ow hw (i := 263) rfl) (j := 6) rfl (Or.inr (ow hw (i := 264) rfl)) (hb hby d34_144) (pc' := 147) rfl ?_
  intro T B
  refine W_astore B (hb hby d34_147) (pc' := 149) rfl rfl (ls' := #[.val (.ref ka1), .val (.ref ka2), .val (.int (1 : Int32)), .val (.ref b174), .val (.ref ka4)]) rfl ?_
  refine W_aloadN B (hb hby d34_149) (pc' := 150) rfl rfl rfl ?_
  refine W_aload B (hb hby d34_150) (pc' := 152) rfl rfl rfl ?_
  refine W_castObj (a0 := a0) B hown (ow hw (i := 136) rfl) (j := 6) rfl (Or.inl rfl) (hb hby d34_152) (pc' := 155) rfl ?_
  intro T B
  refine W_iloadN B (hb hby d34_155) (pc' := 156) rfl rfl ?_
  refine W_privateS B (y := (⟨"com/example/tanglemark/tanglemark/datalog/Relation", "insert", "(Lcom/example/tanglemark/tanglemark/datalog/Relation$Chains;I)V"⟩ : MethodName)) hown (ow hw (i := 265) rfl) (ow hw (i := 266) rfl) (ow hw (i := 2) rfl) (ow hw (i := 267) rfl) (ow hw (i := 3) rfl) (ow hw (i := 268) rfl) (by decide) (a := ka1) (rm_a77 l Z a0 hw h0 ka1 ka4 _ _ _ ka5 ka6 ia1 ia2 ia3 ka7 _ _ ka8 ia4 ia5 ia6 _ ka9 ka10 ka11 _ hy0 hy1 hy2 hy3) (lenOf pd_23 rfl) (hb hby d34_156) (pc' := 159) rfl (argsL := [(.ref ka4), (.int (1 : Int32))]) (rest := []) rfl (by rw [hml]; rfl) (W := 0) (oLe rfl) (j := 11) rfl (by decide) (cells' := 1) rfl (slots' := 4) rfl ?_
  intro T v_ d_ q_ B
  obtain ⟨rfl, rfl⟩ := q_
  show oWin p e below Z h0 _ _ (T.setTop (mkF m 159 #[.val (.ref ka1), .val (.ref ka2), .val (.int (1 : Int32)), .val (.ref b174), .val (.ref ka4)] []))
  refine W_goto B (hb hby d34_159) (by decide) (pc' := 129) (by decide) ?_
  refine W_aloadN B (hb hby d34_129) (pc' := 130) rfl rfl rfl ?_
  refine W_iface B (xi := (⟨"java/util/Iterator", "hasNext", "()Z"⟩ : MethodName)) (y := (⟨"java/util/ArrayList$Itr", "hasNext", "()Z"⟩ : MethodName)) hown (ow hw (i := 119) rfl) (ow hw (i := 120) rfl) (ow hw (i := 121) rfl) (ow hw (i := 122) rfl) (ow hw (i := 123) rfl) (ow hw (i := 124) rfl) (ow hw (i := 125) rfl) (ow hw (i := 126) rfl) (ow hw (i := 105) rfl) (ow hw (i := 127) rfl) (by decide) (a := b174) (rm_a78 l Z a0 hw h0 b174 ka9 _ _ _ _ _ _ _ _ _ ka3 _ ) (lenOf pd_7 rfl) (hb hby d34_130) (pc' := 135) rfl (argsL := []) (rest := []) rfl (by rw [hml]; rfl) (W := 0) (oLe rfl) (j := 0) rfl (by decide) (cells' := 1) rfl (slots' := 4) rfl ?_
  intro T v_ d_ q_ B
  obtain ⟨rfl, rfl⟩ := q_
  show oWin p e below Z h0 _ _ (T.setTop (mkF m 135 #[.val (.ref ka1), .val (.ref ka2), .val (.int (1 : Int32)), .val (.ref b174), .val (.ref ka4)] [(.int (0 : Int32))]))
  refine W_ifY B (hb hby d34_135) (by decide) (pc' := 162) (by decide) (by decide) ?_
  refine W_retV B hret (hb hby d34_162) (by decide) ?_
  exact ⟨b174, rfl, rfl⟩
theorem ef_rm_a80 (m : MethodId) (x0 : Addr) (x1 : Addr) : entryFrame m #[(.ref x0), (.ref x1)] 2 = mkF m 0 #[.val (.ref x0), .val (.ref x1)] [] := by first | (simp [entryFrame, mkF, argsToLocals, Value.category]; done) | rfl
set_option maxRecDepth 65536 in
set_option maxHeartbeats 40000000 in
theorem rm_a80 (l : Launch) (Z : State) (a0 : Array Value) (hw : ∀ d ∈ tables_1, d.before a0 Z = true) (h0 : Heap) {lo : Nat} (ka1 : Addr) (ka2 : Addr) (e0 : Addr × oD) (ka3 : Addr) (ka4 : Addr) (ka5 : Addr) (ka6 : Addr) (ia1 : Int32) (ia2 : Int32) (ia3 : Int32) (ka7 : Addr) (e6 : Addr × oD) (e7 : Addr × oD) (ka8 : Addr) (ka9 : Addr) (ka10 : Addr) (ka11 : Addr) (e11 : Addr × oD) (e12 : Addr × oD) (ia4 : Int32) (ia5 : Int32) (ia6 : Int32) (ds : oDs) (hy0 : ((oH ia4 ia5 ia6) &&& (15 : Int32)).toNatClampNeg < (oHd0.set ((oH ia1 ia2 ia3) &&& (15 : Int32)).toNatClampNeg (.int (0 : Int32))).length) (hy1 : (oHd0.set ((oH ia1 ia2 ia3) &&& (15 : Int32)).toNatClampNeg (.int (0 : Int32))).length.toInt32 = (16 : Int32)) (hy2 : (oHd0.set ((oH ia1 ia2 ia3) &&& (15 : Int32)).toNatClampNeg (.int (0 : Int32)))[((oH ia4 ia5 ia6) &&& (15 : Int32)).toNatClampNeg]? = some (.int (0 : Int32))) (hy3 : ¬ ((oH ia4 ia5 ia6) &&& (15 : Int32)) < (0 : Int32)) (hy4 : ¬ (ia1 = ia4 ∧ ia2 = ia5 ∧ ia3 = ia6)) :
    oMet l Z h0 lo (⟨"com/example/tanglemark/tanglemark/datalog/Relation", "add", "([I)Z"⟩ : MethodName) prog_45_method_8_code 2 (some .boolean) [] ({ frames := 5, cells := 1, slots := 4, locals := 78 } : Room) #[(.ref ka1), (.ref ka2)] (e0 :: (ka3, oA (.object "java/lang/Object") [(.ref ka4), .null, .null, .null, .null, .null, .null, .null, .null, .null]) :: (ka5, oA .int [(.int (-1 : Int32)), o0, o0, o0, o0, o0, o0, o0, o0, o0, o0, o0, o0, o0, o0, o0]) :: (ka6, oA .int (oHd0.set ((oH ia1 ia2 ia3) &&& (15 : Int32)).toNatClampNeg (.int (0 : Int32)))) :: (ka7, oA .int [o0, (.int (1 : Int32)), (.int (2 : Int32))]) :: (ka4, oO cn3 [(fk18, (.ref ka7)), (fk19, (.ref ka6)), (fk20, (.ref ka5))]) :: e6 :: e7 :: (ka8, oA .int [(.int ia1), (.int ia2), (.int ia3), o0, o0, o0, o0, o0, o0, o0, o0, o0, o0, o0, o0, o0, o0, o0, o0, o0, o0, o0, o0, o0, o0, o0, o0, o0, o0, o0, o0, o0, o0, o0, o0, o0, o0, o0, o0, o0, o0, o0, o0, o0, o0, o0, o0, o0]) :: (ka9, oO cn1 [(fk11, (.int (1 : Int32))), (fk12, (.ref ka3)), (fk13, (.int (1 : Int32)))]) :: (ka1, oO cn0 [(fk0, (.ref ka9)), (fk1, (.ref ka10)), (fk2, (.int (3 : Int32))), (fk3, (.int (2147483639 : Int32))), (fk4, (.int (1073741824 : Int32))), (fk5, (.ref ka8)), (fk6, (.ref ka11)), (fk7, .null), (fk8, (.int (0 : Int32))), (fk9, (.int (1 : Int32))), (fk10, (.ref ka4))]) :: e11 :: e12 :: (ka2, oA .int [(.int ia4), (.int ia5), (.int ia6)]) :: ds) (fun (v : Option Value) (d : oDs) => (∃ (b180 : Addr), v = some (.int (1 : Int32)) ∧ ((b180, oO cn2 [(fk14, (.ref ka9)), (fk15, (.int (0 : Int32))), (fk16, (.int (1 : Int32))), (fk17, (.int (1 : Int32)))]) :: e0 :: (ka3, oA (.object "java/lang/Object") [(.ref ka4), .null, .null, .null, .null, .null, .null, .null, .null, .null]) :: (ka5, oA .int [(.int (-1 : Int32)), o0, o0, o0, o0, o0, o0, o0, o0, o0, o0, o0, o0, o0, o0, o0]) :: (ka6, oA .int ((oHd0.set ((oH ia1 ia2 ia3) &&& (15 : Int32)).toNatClampNeg (.int (0 : Int32))).set ((oH ia4 ia5 ia6) &&& (15 : Int32)).toNatClampNeg (.int (1 : Int32)))) :: (ka7, oA .int [o0, (.int (1 : Int32)), (.int (2 : Int32))]) :: (ka4, oO cn3 [(fk18, (.ref ka7)), (fk19, (.ref ka6)), (fk20, (.ref ka5))]) :: e6 :: e7 :: (ka8, oA .int [(.int ia1), (.int ia2), (.int ia3), (.int ia4), (.int ia5), (.int ia6), o0, o0, o0, o0, o0, o0, o0, o0, o0, o0, o0, o0, o0, o0, o0, o0, o0, o0, o0, o0, o0, o0, o0, o0, o0, o0, o0, o0, o0, o0, o0, o0, o0, o0, o0, o0, o0, o0, o0, o0, o0, o0]) :: (ka9, oO cn1 [(fk11, (.int (1 : Int32))), (fk12, (.ref ka3)), (fk13, (.int (1 : Int32)))]) :: (ka1, oO cn0 [(fk0, (.ref ka9)), (fk1, (.ref ka10)), (fk2, (.int (3 : Int32))), (fk3, (.int (2147483639 : Int32))), (fk4, (.int (1073741824 : Int32))), (fk5, (.ref ka8)), (fk6, (.ref ka11)), (fk7, .null), (fk8, (.int (0 : Int32))), (fk9, (.int (2 : Int32))), (fk10, (.ref ka4))]) :: e11 :: e12 :: (ka2, oA .int [(.int ia4), (.int ia5), (.int ia6)]) :: ds) = d)) := by
  refine oMet.of_body (plainFor_of_name pn_9) ?_
  intro p e s m below meth c T B hby hml hown hnm hret
  refine W_entry (ef_rm_a80 m ka1 ka2) ?_
  refine W_aloadN B (hb hby d25_0) (pc' := 1) rfl rfl rfl ?_
  refine W_aloadN B (hb hby d25_1) (pc' := 2) rfl rfl rfl ?_
  refine W_virtual B (y := (⟨"com/example/tanglemark/tanglemark/datalog/Relation", "contains", "([I)Z"⟩ : MethodName)) (z := (⟨"com/example/tanglemark/tanglemark/datalog/Relation", "contains", "([I)Z"⟩ : MethodName)) hown (ow hw (i := 207) rfl) (ow hw (i := 208) rfl) (oNotFace B (ow hw (i := 210) rfl) rfl) (ow hw (i := 210) rfl) (ow hw (i := 209) rfl) (ow hw (i := 3) rfl) (ow hw (i := 211) rfl) (by decide) (a := ka1) (rm_a69 l Z a0 hw h0 ka1 ka2 _ _ ka5 ka6 ia1 ia2 ia3 ka7 ka4 _ _ ka8 _ ka9 ka10 ka11 _ _ ia4 ia5 ia6 _ hy1 hy2 hy3 hy4) (lenOf pd_20 rfl) (hb hby d25_2) (pc' := 5) rfl (argsL := [(.ref ka2)]) (rest := []) rfl (by rw [hml]; rfl) (W := 0) (oLe rfl) (j := 10) rfl (by decide) (cells' := 0) rfl (slots' := 0) rfl ?_
  intro T v_ d_ q_ B
  obtain ⟨rfl, rfl⟩ := q_
  show oWin p e below Z h0 _ _ (T.setTop (mkF m 5 #[.val (.ref ka1), .val (.ref ka2)] [(.int (0 : Int32))]))
  refine W_ifY B (hb hby d25_5) (by decide) (pc' := 10) (by decide) (by decide) ?_
  refine W_aloadN B (hb hby d25_10) (pc' := 11) rfl rfl rfl ?_
  refine W_aloadN B (hb hby d25_11) (pc' := 12) rfl rfl rfl ?_
  refine W_virtual B (y := (⟨"com/example/tanglemark/tanglemark/datalog/Relation", "append", "([I)V"⟩ : MethodName)) (z := (⟨"com/example/tanglemark/tanglemark/datalog/Relation", "append", "([I)V"⟩ : MethodName)) hown (ow hw (i := 240) rfl) (ow hw (i := 241) rfl) (oNotFace B (ow hw (i := 243) rfl) rfl) (ow hw (i := 243) rfl) (ow hw (i := 242) rfl) (ow hw (i := 3) rfl) (ow hw (i := 244) rfl) (by decide) (a := ka1) (rm_a79 l Z a0 hw h0 ka1 ka2 _ ka3 ka4 ka5 ka6 ia1 ia2 ia3 ka7 _ _ ka8 ka9 ka10 ka11 _ _ ia4 ia5 ia6 _ hy0 hy1 hy2 hy3) (lenOf pd_8 rfl) (hb hby d25_12) (pc' := 15) rfl (argsL := [(.ref ka2)]) (rest := []) rfl (by rw [hml]; rfl) (W := 0) (oLe rfl) (j := 10) rfl (by decide) (cells' := 1) rfl (slots' := 4) rfl ?_
  intro T v_ d_ q_ B
  obtain ⟨b180, rfl, rfl⟩ := q_
  show oWin p e below Z h0 _ _ (T.setTop (mkF m 15 #[.val (.ref ka1), .val (.ref ka2)] []))
  refine W_iconst B (hb hby d25_15) (pc' := 16) rfl (z := (1 : Int32)) (by decide) ?_
  refine W_retN B hret (by simp) (hb hby d25_16) (by decide) ?_
  exact ⟨b180, rfl, rfl⟩
theorem ef_rm_a81 (m : MethodId) (x0 : Addr) : entryFrame m #[(.ref x0)] 1 = mkF m 0 #[.val (.ref x0)] [] := by first | (simp [entryFrame, mkF, argsToLocals, Value.category]; done) | rfl
set_option maxRecDepth 65536 in
set_option maxHeartbeats 40000000 in
theorem rm_a81 (l : Launch) (Z : State) (a0 : Array Value) (hw : ∀ d ∈ tables_1, d.before a0 Z = true) (h0 : Heap) {lo : Nat} (ka1 : Addr) (e0 : Addr × oD) (e1 : Addr × oD) (e2 : Addr × oD) (e3 : Addr × oD) (e4 : Addr × oD) (e5 : Addr × oD) (e6 : Addr × oD) (e7 : Addr × oD) (e8 : Addr × oD) (e9 : Addr × oD) (e10 : Addr × oD) (ka2 : Addr) (ka3 : Addr) (ka4 : Addr) (ka5 : Addr) (ka6 : Addr) (ds : oDs) :
    oMet l Z h0 lo (⟨"com/example/tanglemark/tanglemark/datalog/Relation", "requireOpen", "()V"⟩ : MethodName) prog_45_method_16_code 1 none [] ({ frames := 0, cells := 0, slots := 0, locals := 0 } : Room) #[(.ref ka1)] (e0 :: e1 :: e2 :: e3 :: e4 :: e5 :: e6 :: e7 :: e8 :: e9 :: e10 :: (ka1, oO cn0 [(fk0, (.ref ka2)), (fk1, (.ref ka3)), (fk2, (.int (3 : Int32))), (fk3, (.int (2147483639 : Int32))), (fk4, (.int (1073741824 : Int32))), (fk5, (.ref ka4)), (fk6, (.ref ka5)), (fk7, .null), (fk8, (.int (0 : Int32))), (fk9, (.int (2 : Int32))), (fk10, (.ref ka6))]) :: ds) (fun (v : Option Value) (d : oDs) => (v = none ∧ (e0 :: e1 :: e2 :: e3 :: e4 :: e5 :: e6 :: e7 :: e8 :: e9 :: e10 :: (ka1, oO cn0 [(fk0, (.ref ka2)), (fk1, (.ref ka3)), (fk2, (.int (3 : Int32))), (fk3, (.int (2147483639 : Int32))), (fk4, (.int (1073741824 : Int32))), (fk5, (.ref ka4)), (fk6, (.ref ka5)), (fk7, .null), (fk8, (.int (0 : Int32))), (fk9, (.int (2 : Int32))), (fk10, (.ref ka6))]) :: ds) = d)) := by
  refine oMet.of_body (plainFor_of_name pn_9) ?_
  intro p e s m below meth c T B hby hml hown hnm hret
  refine W_entry (ef_rm_a81 m ka1) ?_
  refine W_aloadN B (hb hby d28_0) (pc' := 1) rfl rfl rfl ?_
  refine W_getfield B hown (host := "") (Or.inl (ow hw (i := 134) rfl)) Via.refl (hb hby d28_1) (pc' := 4) rfl (j := 11) rfl (q := 8) rfl ?_
  intro T B
  refine W_ifY B (hb hby d28_4) (by decide) (pc' := 24) (by decide) (by decide) ?_
  refine W_retV B hret (hb hby d28_24) (by decide) ?_
  exact ⟨rfl, rfl⟩
theorem ef_rm_a82 (m : MethodId) (x0 : Addr) (x1 : Int32) : entryFrame m #[(.ref x0), (.int x1)] 2 = mkF m 0 #[.val (.ref x0), .val (.int x1)] [] := by first | (simp [entryFrame, mkF, argsToLocals, Value.category]; done) | rfl
set_option maxRecDepth 65536 in
set_option maxHeartbeats 40000000 in
theorem rm_a82 (l : Launch) (Z : State) (a0 : Array Value) (hw : ∀ d ∈ tables_1, d.before a0 Z = true) (h0 : Heap) {lo : Nat} (ka1 : Addr) (ia1 : Int32) (ia2 : Int32) (ia3 : Int32) (e0 : Addr × oD) (e1 : Addr × oD) (e2 : Addr × oD) (e3 : Addr × oD) (ka2 : Addr) (ia4 : Int32) (ia5 : Int32) (ia6 : Int32) (e5 : Addr × oD) (ka3 : Addr) (ka4 : Addr) (ds : oDs) (hy0 : ((oHd0.set ((oH ia1 ia2 ia3) &&& (15 : Int32)).toNatClampNeg (.int (0 : Int32))).set ((oH ia4 ia5 ia6) &&& (15 : Int32)).toNatClampNeg (.int (1 : Int32))).length.toInt32 = (16 : Int32)) (hy1 : ((oHd0.set ((oH ia1 ia2 ia3) &&& (15 : Int32)).toNatClampNeg (.int (0 : Int32))).set ((oH ia4 ia5 ia6) &&& (15 : Int32)).toNatClampNeg (.int (1 : Int32)))[((oH ia1 ia2 ia3) &&& (15 : Int32)).toNatClampNeg]? = some (.int (1 : Int32))) (hy2 : ¬ ((oH ia1 ia2 ia3) &&& (15 : Int32)) < (0 : Int32)) :
    oMet l Z h0 lo (⟨"com/example/tanglemark/tanglemark/datalog/Relation", "first", "(Lcom/example/tanglemark/tanglemark/datalog/Relation$Chains;I)I"⟩ : MethodName) prog_45_method_28_code 2 (some .int) [] ({ frames := 0, cells := 0, slots := 0, locals := 0 } : Room) #[(.ref ka1), (.int (oH ia1 ia2 ia3))] (e0 :: e1 :: e2 :: e3 :: (ka2, oA .int ((oHd0.set ((oH ia1 ia2 ia3) &&& (15 : Int32)).toNatClampNeg (.int (0 : Int32))).set ((oH ia4 ia5 ia6) &&& (15 : Int32)).toNatClampNeg (.int (1 : Int32)))) :: e5 :: (ka1, oO cn3 [(fk18, (.ref ka3)), (fk19, (.ref ka2)), (fk20, (.ref ka4))]) :: ds) (fun (v : Option Value) (d : oDs) => (v = some (.int (1 : Int32)) ∧ (e0 :: e1 :: e2 :: e3 :: (ka2, oA .int ((oHd0.set ((oH ia1 ia2 ia3) &&& (15 : Int32)).toNatClampNeg (.int (0 : Int32))).set ((oH ia4 ia5 ia6) &&& (15 : Int32)).toNatClampNeg (.int (1 : Int32)))) :: e5 :: (ka1, oO cn3 [(fk18, (.ref ka3)), (fk19, (.ref ka2)), (fk20, (.ref ka4))]) :: ds) = d)) := by
  refine oMet.of_body (plainFor_of_name pn_9) ?_
  intro p e s m below meth c T B hby hml hown hnm hret
  refine W_entry (ef_rm_a82 m ka1 (oH ia1 ia2 ia3)) ?_
  refine W_aloadN B (hb hby d33_0) (pc' := 1) rfl rfl rfl ?_
  refine W_getfieldR B hown (ow hw (i := 239) rfl) (hb hby d33_1) (pc' := 4) rfl (j := 6) rfl (q := 1) rfl ?_
  refine W_iloadN B (hb hby d33_4) (pc' := 5) rfl rfl ?_
  refine W_aloadN B (hb hby d33_5) (pc' := 6) rfl rfl rfl ?_
  refine W_getfieldR B hown (ow hw (i := 239) rfl) (hb hby d33_6) (pc' := 9) rfl (j := 6) rfl (q := 1) rfl ?_
  refine W_arraylength B (hb hby d33_9) (pc' := 10) rfl (j := 4) rfl (z := (16 : Int32)) hy0 ?_
  refine W_iconst B (hb hby d33_10) (pc' := 11) rfl (z := (1 : Int32)) (by decide) ?_
  refine W_isub B (hb hby d33_11) (pc' := 12) rfl (z := (15 : Int32)) (by decide) ?_
  refine W_iand B (hb hby d33_12) (pc' := 13) rfl (z := ((oH ia1 ia2 ia3) &&& (15 : Int32))) rfl ?_
  refine W_iaload B (hb hby d33_13) (pc' := 14) rfl (i := 4) rfl hy2 (v := (.int (1 : Int32))) hy1 ?_
  refine W_retI B hret (hb hby d33_14) (by decide) ?_
  exact ⟨rfl, rfl⟩
theorem ef_rm_a83 (m : MethodId) (x0 : Addr) (x2 : Addr) (x3 : Addr) : entryFrame m #[(.ref x0), (.int (1 : Int32)), (.ref x2), (.ref x3)] 6 = mkF m 0 #[.val (.ref x0), .val (.int (1 : Int32)), .val (.ref x2), .val (.ref x3), .unset, .unset] [] := by first | (simp [entryFrame, mkF, argsToLocals, Value.category]; done) | rfl
set_option maxRecDepth 65536 in
set_option maxHeartbeats 40000000 in
theorem rm_a83 (l : Launch) (Z : State) (a0 : Array Value) (hw : ∀ d ∈ tables_1, d.before a0 Z = true) (h0 : Heap) {lo : Nat} (ka1 : Addr) (ka2 : Addr) (ka3 : Addr) (e0 : Addr × oD) (e1 : Addr × oD) (e2 : Addr × oD) (e3 : Addr × oD) (e4 : Addr × oD) (e6 : Addr × oD) (e7 : Addr × oD) (e8 : Addr × oD) (ka4 : Addr) (ia1 : Int32) (ia2 : Int32) (ia3 : Int32) (ia4 : Int32) (ia5 : Int32) (ia6 : Int32) (e10 : Addr × oD) (ka5 : Addr) (ka6 : Addr) (ka7 : Addr) (ka8 : Addr) (e12 : Addr × oD) (ds : oDs) (hy0 : ¬ (ia4 = ia1 ∧ ia5 = ia2 ∧ ia6 = ia3)) :
    oMet l Z h0 lo (⟨"com/example/tanglemark/tanglemark/datalog/Relation", "hasKey", "(I[I[I)Z"⟩ : MethodName) prog_45_method_17_code 6 (some .boolean) [] ({ frames := 0, cells := 0, slots := 0, locals := 0 } : Room) #[(.ref ka1), (.int (1 : Int32)), (.ref ka2), (.ref ka3)] (e0 :: e1 :: e2 :: e3 :: e4 :: (ka2, oA .int [o0, (.int (1 : Int32)), (.int (2 : Int32))]) :: e6 :: e7 :: e8 :: (ka4, oA .int [(.int ia1), (.int ia2), (.int ia3), (.int ia4), (.int ia5), (.int ia6), o0, o0, o0, o0, o0, o0, o0, o0, o0, o0, o0, o0, o0, o0, o0, o0, o0, o0, o0, o0, o0, o0, o0, o0, o0, o0, o0, o0, o0, o0, o0, o0, o0, o0, o0, o0, o0, o0, o0, o0, o0, o0]) :: e10 :: (ka1, oO cn0 [(fk0, (.ref ka5)), (fk1, (.ref ka6)), (fk2, (.int (3 : Int32))), (fk3, (.int (2147483639 : Int32))), (fk4, (.int (1073741824 : Int32))), (fk5, (.ref ka4)), (fk6, (.ref ka7)), (fk7, .null), (fk8, (.int (0 : Int32))), (fk9, (.int (2 : Int32))), (fk10, (.ref ka8))]) :: e12 :: (ka3, oA .int [(.int ia1), (.int ia2), (.int ia3)]) :: ds) (fun (v : Option Value) (d : oDs) => (v = some (.int (0 : Int32)) ∧ (e0 :: e1 :: e2 :: e3 :: e4 :: (ka2, oA .int [o0, (.int (1 : Int32)), (.int (2 : Int32))]) :: e6 :: e7 :: e8 :: (ka4, oA .int [(.int ia1), (.int ia2), (.int ia3), (.int ia4), (.int ia5), (.int ia6), o0, o0, o0, o0, o0, o0, o0, o0, o0, o0, o0, o0, o0, o0, o0, o0, o0, o0, o0, o0, o0, o0, o0, o0, o0, o0, o0, o0, o0, o0, o0, o0, o0, o0, o0, o0, o0, o0, o0, o0, o0, o0]) :: e10 :: (ka1, oO cn0 [(fk0, (.ref ka5)), (fk1, (.ref ka6)), (fk2, (.int (3 : Int32))), (fk3, (.int (2147483639 : Int32))), (fk4, (.int (1073741824 : Int32))), (fk5, (.ref ka4)), (fk6, (.ref ka7)), (fk7, .null), (fk8, (.int (0 : Int32))), (fk9, (.int (2 : Int32))), (fk10, (.ref ka8))]) :: e12 :: (ka3, oA .int [(.int ia1), (.int ia2), (.int ia3)]) :: ds) = d)) := by
  refine oMet.of_body (plainFor_of_name pn_9) ?_
  intro p e s m below meth c T B hby hml hown hnm hret
  refine W_entry (ef_rm_a83 m ka1 ka2 ka3) ?_
  refine W_iloadN B (hb hby d40_0) (pc' := 1) rfl rfl ?_
  refine W_aloadN B (hb hby d40_1) (pc' := 2) rfl rfl rfl ?_
  refine W_getfield B hown (host := "") (Or.inl (ow hw (i := 50) rfl)) Via.refl (hb hby d40_2) (pc' := 5) rfl (j := 11) rfl (q := 2) rfl ?_
  intro T B
  refine W_imul B (hb hby d40_5) (pc' := 6) rfl (z := (3 : Int32)) (by decide) ?_
  refine W_istore B (hb hby d40_6) (pc' := 8) rfl (v := (3 : Int32)) rfl (ls' := #[.val (.ref ka1), .val (.int (1 : Int32)), .val (.ref ka2), .val (.ref ka3), .val (.int (3 : Int32)), .unset]) rfl ?_
  refine W_iconst B (hb hby d40_8) (pc' := 9) rfl (z := (0 : Int32)) (by decide) ?_
  refine W_istore B (hb hby d40_9) (pc' := 11) rfl (v := (0 : Int32)) rfl (ls' := #[.val (.ref ka1), .val (.int (1 : Int32)), .val (.ref ka2), .val (.ref ka3), .val (.int (3 : Int32)), .val (.int (0 : Int32))]) rfl ?_
  refine W_iload B (hb hby d40_11) (pc' := 13) rfl rfl ?_
  refine W_aloadN B (hb hby d40_13) (pc' := 14) rfl rfl rfl ?_
  refine W_arraylength B (hb hby d40_14) (pc' := 15) rfl (j := 5) rfl (z := (3 : Int32)) rfl ?_
  refine W_icmpN B (hb hby d40_15) (pc' := 18) rfl (by decide) ?_
  refine W_aloadN B (hb hby d40_18) (pc' := 19) rfl rfl rfl ?_
  refine W_getfield B hown (host := "") (Or.inl (ow hw (i := 69) rfl)) Via.refl (hb hby d40_19) (pc' := 22) rfl (j := 11) rfl (q := 5) rfl ?_
  intro T B
  refine W_iload B (hb hby d40_22) (pc' := 24) rfl rfl ?_
  refine W_aloadN B (hb hby d40_24) (pc' := 25) rfl rfl rfl ?_
  refine W_iload B (hb hby d40_25) (pc' := 27) rfl rfl ?_
  refine W_iaload B (hb hby d40_27) (pc' := 28) rfl (i := 5) rfl (by decide) (v := (.int (0 : Int32))) rfl ?_
  refine W_iadd B (hb hby d40_28) (pc' := 29) rfl (z := (3 : Int32)) (by decide) ?_
  refine W_iaload B (hb hby d40_29) (pc' := 30) rfl (i := 9) rfl (by decide) (v := (.int ia4)) rfl ?_
  refine W_aloadN B (hb hby d40_30) (pc' := 31) rfl rfl rfl ?_
  refine W_iload B (hb hby d40_31) (pc' := 33) rfl rfl ?_
  refine W_iaload B (hb hby d40_33) (pc' := 34) rfl (i := 13) rfl (by decide) (v := (.int ia1)) rfl ?_
  refine W_icmp_eq B (hb hby d40_34) (by decide) (pt := 39) (by decide) (pc' := 37) rfl (fun (c184 : ia4 = ia1) => ?_) (fun (c184 : ¬ ia4 = ia1) => ?_)
  · refine W_iinc B (hb hby d40_39) (pc' := 42) rfl rfl (z := (1 : Int32)) (by decide) (ls' := #[.val (.ref ka1), .val (.int (1 : Int32)), .val (.ref ka2), .val (.ref ka3), .val (.int (3 : Int32)), .val (.int (1 : Int32))]) rfl ?_
    refine W_goto B (hb hby d40_42) (by decide) (pc' := 11) (by decide) ?_
    refine W_iload B (hb hby d40_11) (pc' := 13) rfl rfl ?_
    refine W_aloadN B (hb hby d40_13) (pc' := 14) rfl rfl rfl ?_
    refine W_arraylength B (hb hby d40_14) (pc' := 15) rfl (j := 5) rfl (z := (3 : Int32)) rfl ?_
    refine W_icmpN B (hb hby d40_15) (pc' := 18) rfl (by decide) ?_
    refine W_aloadN B (hb hby d40_18) (pc' := 19) rfl rfl rfl ?_
    refine W_getfield B hown (host := "") (Or.inl (ow hw (i := 69) rfl)) Via.refl (hb hby d40_19) (pc' := 22) rfl (j := 11) rfl (q := 5) rfl ?_
    intro T B
    refine W_iload B (hb hby d40_22) (pc' := 24) rfl rfl ?_
    refine W_aloadN B (hb hby d40_24) (pc' := 25) rfl rfl rfl ?_
    refine W_iload B (hb hby d40_25) (pc' := 27) rfl rfl ?_
    refine W_iaload B (hb hby d40_27) (pc' := 28) rfl (i := 5) rfl (by decide) (v := (.int (1 : Int32))) rfl ?_
    refine W_iadd B (hb hby d40_28) (pc' := 29) rfl (z := (4 : Int32)) (by decide) ?_
    refine W_iaload B (hb hby d40_29) (pc' := 30) rfl (i := 9) rfl (by decide) (v := (.int ia5)) rfl ?_
    refine W_aloadN B (hb hby d40_30) (pc' := 31) rfl rfl rfl ?_
    refine W_iload B (hb hby d40_31) (pc' := 33) rfl rfl ?_
    refine W_iaload B (hb hby d40_33) (pc' := 34) rfl (i := 13) rfl (by decide) (v := (.int ia2)) rfl ?_
    refine W_icmp_eq B (hb hby d40_34) (by decide) (pt := 39) (by decide) (pc' := 37) rfl (fun (c185 : ia5 = ia2) => ?_) (fun (c185 : ¬ ia5 = ia2) => ?_)
    · refine W_iinc B (hb hby d40_39) (pc' := 42) rfl rfl (z := (2 : Int32)) (by decide) (ls' := #[.val (.ref ka1), .val (.int (1 : Int32)), .val (.ref ka2), .val (.ref ka3), .val (.int (3 : Int32)), .val (.int (2 : Int32))]) rfl ?_
      refine W_goto B (hb hby d40_42) (by decide) (pc' := 11) (by decide) ?_
      refine W_iload B (hb hby d40_11) (pc' := 13) rfl rfl ?_
      refine W_aloadN B (hb hby d40_13) (pc' := 14) rfl rfl rfl ?_
      refine W_arraylength B (hb hby d40_14) (pc' := 15) rfl (j := 5) rfl (z := (3 : Int32)) rfl ?_
      refine W_icmpN B (hb hby d40_15) (pc' := 18) rfl (by decide) ?_
      refine W_aloadN B (hb hby d40_18) (pc' := 19) rfl rfl rfl ?_
      refine W_getfield B hown (host := "") (Or.inl (ow hw (i := 69) rfl)) Via.refl (hb hby d40_19) (pc' := 22) rfl (j := 11) rfl (q := 5) rfl ?_
      intro T B
      refine W_iload B (hb hby d40_22) (pc' := 24) rfl rfl ?_
      refine W_aloadN B (hb hby d40_24) (pc' := 25) rfl rfl rfl ?_
      refine W_iload B (hb hby d40_25) (pc' := 27) rfl rfl ?_
      refine W_iaload B (hb hby d40_27) (pc' := 28) rfl (i := 5) rfl (by decide) (v := (.int (2 : Int32))) rfl ?_
      refine W_iadd B (hb hby d40_28) (pc' := 29) rfl (z := (5 : Int32)) (by decide) ?_
      refine W_iaload B (hb hby d40_29) (pc' := 30) rfl (i := 9) rfl (by decide) (v := (.int ia6)) rfl ?_
      refine W_aloadN B (hb hby d40_30) (pc' := 31) rfl rfl rfl ?_
      refine W_iload B (hb hby d40_31) (pc' := 33) rfl rfl ?_
      refine W_iaload B (hb hby d40_33) (pc' := 34) rfl (i := 13) rfl (by decide) (v := (.int ia3)) rfl ?_
      refine W_icmpN B (hb hby d40_34) (pc' := 37) rfl (feq (fun q => hy0 ⟨c184, c185, q⟩)).1 ?_
      refine W_iconst B (hb hby d40_37) (pc' := 38) rfl (z := (0 : Int32)) (by decide) ?_
      refine W_retN B hret (by simp) (hb hby d40_38) (by decide) ?_
      exact ⟨rfl, rfl⟩
    refine W_iconst B (hb hby d40_37) (pc' := 38) rfl (z := (0 : Int32)) (by decide) ?_
    refine W_retN B hret (by simp) (hb hby d40_38) (by decide) ?_
    exact ⟨rfl, rfl⟩
  refine W_iconst B (hb hby d40_37) (pc' := 38) rfl (z := (0 : Int32)) (by decide) ?_
  refine W_retN B hret (by simp) (hb hby d40_38) (by decide) ?_
  exact ⟨rfl, rfl⟩
theorem ef_rm_a84 (m : MethodId) (x0 : Addr) : entryFrame m #[(.ref x0), (.int (1 : Int32))] 2 = mkF m 0 #[.val (.ref x0), .val (.int (1 : Int32))] [] := by first | (simp [entryFrame, mkF, argsToLocals, Value.category]; done) | rfl
set_option maxRecDepth 65536 in
set_option maxHeartbeats 40000000 in
theorem rm_a84 (l : Launch) (Z : State) (a0 : Array Value) (hw : ∀ d ∈ tables_1, d.before a0 Z = true) (h0 : Heap) {lo : Nat} (ka1 : Addr) (e0 : Addr × oD) (e1 : Addr × oD) (e2 : Addr × oD) (ka2 : Addr) (e4 : Addr × oD) (e5 : Addr × oD) (ka3 : Addr) (ka4 : Addr) (ds : oDs) :
    oMet l Z h0 lo (⟨"com/example/tanglemark/tanglemark/datalog/Relation", "next", "(Lcom/example/tanglemark/tanglemark/datalog/Relation$Chains;I)I"⟩ : MethodName) prog_45_method_29_code 2 (some .int) [] ({ frames := 0, cells := 0, slots := 0, locals := 0 } : Room) #[(.ref ka1), (.int (1 : Int32))] (e0 :: e1 :: e2 :: (ka2, oA .int [(.int (-1 : Int32)), o0, o0, o0, o0, o0, o0, o0, o0, o0, o0, o0, o0, o0, o0, o0]) :: e4 :: e5 :: (ka1, oO cn3 [(fk18, (.ref ka3)), (fk19, (.ref ka4)), (fk20, (.ref ka2))]) :: ds) (fun (v : Option Value) (d : oDs) => (v = some (.int (0 : Int32)) ∧ (e0 :: e1 :: e2 :: (ka2, oA .int [(.int (-1 : Int32)), o0, o0, o0, o0, o0, o0, o0, o0, o0, o0, o0, o0, o0, o0, o0]) :: e4 :: e5 :: (ka1, oO cn3 [(fk18, (.ref ka3)), (fk19, (.ref ka4)), (fk20, (.ref ka2))]) :: ds) = d)) := by
  refine oMet.of_body (plainFor_of_name pn_9) ?_
  intro p e s m below meth c T B hby hml hown hnm hret
  refine W_entry (ef_rm_a84 m ka1) ?_
  refine W_aloadN B (hb hby d42_0) (pc' := 1) rfl rfl rfl ?_
  refine W_getfieldR B hown (ow hw (i := 269) rfl) (hb hby d42_1) (pc' := 4) rfl (j := 6) rfl (q := 2) rfl ?_
  refine W_iloadN B (hb hby d42_4) (pc' := 5) rfl rfl ?_
  refine W_iaload B (hb hby d42_5) (pc' := 6) rfl (i := 3) rfl (by decide) (v := (.int (0 : Int32))) rfl ?_
  refine W_retI B hret (hb hby d42_6) (by decide) ?_
  exact ⟨rfl, rfl⟩
theorem ef_rm_a85 (m : MethodId) (x0 : Addr) (x2 : Addr) (x3 : Addr) : entryFrame m #[(.ref x0), (.int (0 : Int32)), (.ref x2), (.ref x3)] 6 = mkF m 0 #[.val (.ref x0), .val (.int (0 : Int32)), .val (.ref x2), .val (.ref x3), .unset, .unset] [] := by first | (simp [entryFrame, mkF, argsToLocals, Value.category]; done) | rfl
set_option maxRecDepth 65536 in
set_option maxHeartbeats 40000000 in
theorem rm_a85 (l : Launch) (Z : State) (a0 : Array Value) (hw : ∀ d ∈ tables_1, d.before a0 Z = true) (h0 : Heap) {lo : Nat} (ka1 : Addr) (ka2 : Addr) (ka3 : Addr) (e0 : Addr × oD) (e1 : Addr × oD) (e2 : Addr × oD) (e3 : Addr × oD) (e4 : Addr × oD) (e6 : Addr × oD) (e7 : Addr × oD) (e8 : Addr × oD) (ka4 : Addr) (ia1 : Int32) (ia2 : Int32) (ia3 : Int32) (ia4 : Int32) (ia5 : Int32) (ia6 : Int32) (e10 : Addr × oD) (ka5 : Addr) (ka6 : Addr) (ka7 : Addr) (ka8 : Addr) (e12 : Addr × oD) (ds : oDs) :
    oMet l Z h0 lo (⟨"com/example/tanglemark/tanglemark/datalog/Relation", "hasKey", "(I[I[I)Z"⟩ : MethodName) prog_45_method_17_code 6 (some .boolean) [] ({ frames := 0, cells := 0, slots := 0, locals := 0 } : Room) #[(.ref ka1), (.int (0 : Int32)), (.ref ka2), (.ref ka3)] (e0 :: e1 :: e2 :: e3 :: e4 :: (ka2, oA .int [o0, (.int (1 : Int32)), (.int (2 : Int32))]) :: e6 :: e7 :: e8 :: (ka4, oA .int [(.int ia1), (.int ia2), (.int ia3), (.int ia4), (.int ia5), (.int ia6), o0, o0, o0, o0, o0, o0, o0, o0, o0, o0, o0, o0, o0, o0, o0, o0, o0, o0, o0, o0, o0, o0, o0, o0, o0, o0, o0, o0, o0, o0, o0, o0, o0, o0, o0, o0, o0, o0, o0, o0, o0, o0]) :: e10 :: (ka1, oO cn0 [(fk0, (.ref ka5)), (fk1, (.ref ka6)), (fk2, (.int (3 : Int32))), (fk3, (.int (2147483639 : Int32))), (fk4, (.int (1073741824 : Int32))), (fk5, (.ref ka4)), (fk6, (.ref ka7)), (fk7, .null), (fk8, (.int (0 : Int32))), (fk9, (.int (2 : Int32))), (fk10, (.ref ka8))]) :: e12 :: (ka3, oA .int [(.int ia1), (.int ia2), (.int ia3)]) :: ds) (fun (v : Option Value) (d : oDs) => (v = some (.int (1 : Int32)) ∧ (e0 :: e1 :: e2 :: e3 :: e4 :: (ka2, oA .int [o0, (.int (1 : Int32)), (.int (2 : Int32))]) :: e6 :: e7 :: e8 :: (ka4, oA .int [(.int ia1), (.int ia2), (.int ia3), (.int ia4), (.int ia5), (.int ia6), o0, o0, o0, o0, o0, o0, o0, o0, o0, o0, o0, o0, o0, o0, o0, o0, o0, o0, o0, o0, o0, o0, o0, o0, o0, o0, o0, o0, o0, o0, o0, o0, o0, o0, o0, o0, o0, o0, o0, o0, o0, o0]) :: e10 :: (ka1, oO cn0 [(fk0, (.ref ka5)), (fk1, (.ref ka6)), (fk2, (.int (3 : Int32))), (fk3, (.int (2147483639 : Int32))), (fk4, (.int (1073741824 : Int32))), (fk5, (.ref ka4)), (fk6, (.ref ka7)), (fk7, .null), (fk8, (.int (0 : Int32))), (fk9, (.int (2 : Int32))), (fk10, (.ref ka8))]) :: e12 :: (ka3, oA .int [(.int ia1), (.int ia2), (.int ia3)]) :: ds) = d)) := by
  refine oMet.of_body (plainFor_of_name pn_9) ?_
  intro p e s m below meth c T B hby hml hown hnm hret
  refine W_entry (ef_rm_a85 m ka1 ka2 ka3) ?_
  refine W_iloadN B (hb hby d40_0) (pc' := 1) rfl rfl ?_
  refine W_aloadN B (hb hby d40_1) (pc' := 2) rfl rfl rfl ?_
  refine W_getfield B hown (host := "") (Or.inl (ow hw (i := 50) rfl)) Via.refl (hb hby d40_2) (pc' := 5) rfl (j := 11) rfl (q := 2) rfl ?_
  intro T B
  refine W_imul B (hb hby d40_5) (pc' := 6) rfl (z := (0 : Int32)) (by decide) ?_
  refine W_istore B (hb hby d40_6) (pc' := 8) rfl (v := (0 : Int32)) rfl (ls' := #[.val (.ref ka1), .val (.int (0 : Int32)), .val (.ref ka2), .val (.ref ka3), .val (.int (0 : Int32)), .unset]) rfl ?_
  refine W_iconst B (hb hby d40_8) (pc' := 9) rfl (z := (0 : Int32)) (by decide) ?_
  refine W_istore B (hb hby d40_9) (pc' := 11) rfl (v := (0 : Int32)) rfl (ls' := #[.val (.ref ka1), .val (.int (0 : Int32)), .val (.ref ka2), .val (.ref ka3), .val (.int (0 : Int32)), .val (.int (0 : Int32))]) rfl ?_
  refine W_iload B (hb hby d40_11) (pc' := 13) rfl rfl ?_
  refine W_aloadN B (hb hby d40_13) (pc' := 14) rfl rfl rfl ?_
  refine W_arraylength B (hb hby d40_14) (pc' := 15) rfl (j := 5) rfl (z := (3 : Int32)) rfl ?_
  refine W_icmpN B (hb hby d40_15) (pc' := 18) rfl (by decide) ?_
  refine W_aloadN B (hb hby d40_18) (pc' := 19) rfl rfl rfl ?_
  refine W_getfield B hown (host := "") (Or.inl (ow hw (i := 69) rfl)) Via.refl (hb hby d40_19) (pc' := 22) rfl (j := 11) rfl (q := 5) rfl ?_
  intro T B
  refine W_iload B (hb hby d40_22) (pc' := 24) rfl rfl ?_
  refine W_aloadN B (hb hby d40_24) (pc' := 25) rfl rfl rfl ?_
  refine W_iload B (hb hby d40_25) (pc' := 27) rfl rfl ?_
  refine W_iaload B (hb hby d40_27) (pc' := 28) rfl (i := 5) rfl (by decide) (v := (.int (0 : Int32))) rfl ?_
  refine W_iadd B (hb hby d40_28) (pc' := 29) rfl (z := (0 : Int32)) (by decide) ?_
  refine W_iaload B (hb hby d40_29) (pc' := 30) rfl (i := 9) rfl (by decide) (v := (.int ia1)) rfl ?_
  refine W_aloadN B (hb hby d40_30) (pc' := 31) rfl rfl rfl ?_
  refine W_iload B (hb hby d40_31) (pc' := 33) rfl rfl ?_
  refine W_iaload B (hb hby d40_33) (pc' := 34) rfl (i := 13) rfl (by decide) (v := (.int ia1)) rfl ?_
  refine W_icmpY B (hb hby d40_34) (by decide) (pc' := 39) (by decide) (teq (rfl : ia1 = ia1)).1 ?_
  refine W_iinc B (hb hby d40_39) (pc' := 42) rfl rfl (z := (1 : Int32)) (by decide) (ls' := #[.val (.ref ka1), .val (.int (0 : Int32)), .val (.ref ka2), .val (.ref ka3), .val (.int (0 : Int32)), .val (.int (1 : Int32))]) rfl ?_
  refine W_goto B (hb hby d40_42) (by decide) (pc' := 11) (by decide) ?_
  refine W_iload B (hb hby d40_11) (pc' := 13) rfl rfl ?_
  refine W_aloadN B (hb hby d40_13) (pc' := 14) rfl rfl rfl ?_
  refine W_arraylength B (hb hby d40_14) (pc' := 15) rfl (j := 5) rfl (z := (3 : Int32)) rfl ?_
  refine W_icmpN B (hb hby d40_15) (pc' := 18) rfl (by decide) ?_
  refine W_aloadN B (hb hby d40_18) (pc' := 19) rfl rfl rfl ?_
  refine W_getfield B hown (host := "") (Or.inl (ow hw (i := 69) rfl)) Via.refl (hb hby d40_19) (pc' := 22) rfl (j := 11) rfl (q := 5) rfl ?_
  intro T B
  refine W_iload B (hb hby d40_22) (pc' := 24) rfl rfl ?_
  refine W_aloadN B (hb hby d40_24) (pc' := 25) rfl rfl rfl ?_
  refine W_iload B (hb hby d40_25) (pc' := 27) rfl rfl ?_
  refine W_iaload B (hb hby d40_27) (pc' := 28) rfl (i := 5) rfl (by decide) (v := (.int (1 : Int32))) rfl ?_
  refine W_iadd B (hb hby d40_28) (pc' := 29) rfl (z := (1 : Int32)) (by decide) ?_
  refine W_iaload B (hb hby d40_29) (pc' := 30) rfl (i := 9) rfl (by decide) (v := (.int ia2)) rfl ?_
  refine W_aloadN B (hb hby d40_30) (pc' := 31) rfl rfl rfl ?_
  refine W_iload B (hb hby d40_31) (pc' := 33) rfl rfl ?_
  refine W_iaload B (hb hby d40_33) (pc' := 34) rfl (i := 13) rfl (by decide) (v := (.int ia2)) rfl ?_
  refine W_icmpY B (hb hby d40_34) (by decide) (pc' := 39) (by decide) (teq (rfl : ia2 = ia2)).1 ?_
  refine W_iinc B (hb hby d40_39) (pc' := 42) rfl rfl (z := (2 : Int32)) (by decide) (ls' := #[.val (.ref ka1), .val (.int (0 : Int32)), .val (.ref ka2), .val (.ref ka3), .val (.int (0 : Int32)), .val (.int (2 : Int32))]) rfl ?_
  refine W_goto B (hb hby d40_42) (by decide) (pc' := 11) (by decide) ?_
  refine W_iload B (hb hby d40_11) (pc' := 13) rfl rfl ?_
  refine W_aloadN B (hb hby d40_13) (pc' := 14) rfl rfl rfl ?_
  refine W_arraylength B (hb hby d40_14) (pc' := 15) rfl (j := 5) rfl (z := (3 : Int32)) rfl ?_
  refine W_icmpN B (hb hby d40_15) (pc' := 18) rfl (by decide) ?_
  refine W_aloadN B (hb hby d40_18) (pc' := 19) rfl rfl rfl ?_
  refine W_getfield B hown (host := "") (Or.inl (ow hw (i := 69) rfl)) Via.refl (hb hby d40_19) (pc' := 22) rfl (j := 11) rfl (q := 5) rfl ?_
  intro T B
  refine W_iload B (hb hby d40_22) (pc' := 24) rfl rfl ?_
  refine W_aloadN B (hb hby d40_24) (pc' := 25) rfl rfl rfl ?_
  refine W_iload B (hb hby d40_25) (pc' := 27) rfl rfl ?_
  refine W_iaload B (hb hby d40_27) (pc' := 28) rfl (i := 5) rfl (by decide) (v := (.int (2 : Int32))) rfl ?_
  refine W_iadd B (hb hby d40_28) (pc' := 29) rfl (z := (2 : Int32)) (by decide) ?_
  refine W_iaload B (hb hby d40_29) (pc' := 30) rfl (i := 9) rfl (by decide) (v := (.int ia3)) rfl ?_
  refine W_aloadN B (hb hby d40_30) (pc' := 31) rfl rfl rfl ?_
  refine W_iload B (hb hby d40_31) (pc' := 33) rfl rfl ?_
  refine W_iaload B (hb hby d40_33) (pc' := 34) rfl (i := 13) rfl (by decide) (v := (.int ia3)) rfl ?_
  refine W_icmpY B (hb hby d40_34) (by decide) (pc' := 39) (by decide) (teq (rfl : ia3 = ia3)).1 ?_
  refine W_iinc B (hb hby d40_39) (pc' := 42) rfl rfl (z := (3 : Int32)) (by decide) (ls' := #[.val (.ref ka1), .val (.int (0 : Int32)), .val (.ref ka2), .val (.ref ka3), .val (.int (0 : Int32)), .val (.int (3 : Int32))]) rfl ?_
  refine W_goto B (hb hby d40_42) (by decide) (pc' := 11) (by decide) ?_
  refine W_iload B (hb hby d40_11) (pc' := 13) rfl rfl ?_
  refine W_aloadN B (hb hby d40_13) (pc' := 14) rfl rfl rfl ?_
  refine W_arraylength B (hb hby d40_14) (pc' := 15) rfl (j := 5) rfl (z := (3 : Int32)) rfl ?_
  refine W_icmpY B (hb hby d40_15) (by decide) (pc' := 45) (by decide) (by decide) ?_
  refine W_iconst B (hb hby d40_45) (pc' := 46) rfl (z := (1 : Int32)) (by decide) ?_
  refine W_retN B hret (by simp) (hb hby d40_46) (by decide) ?_
  exact ⟨rfl, rfl⟩
theorem ef_rm_a86 (m : MethodId) (x0 : Addr) (x1 : Addr) (x2 : Addr) : entryFrame m #[(.ref x0), (.ref x1), (.ref x2), (.int (2 : Int32))] 5 = mkF m 0 #[.val (.ref x0), .val (.ref x1), .val (.ref x2), .val (.int (2 : Int32)), .unset] [] := by first | (simp [entryFrame, mkF, argsToLocals, Value.category]; done) | rfl
set_option maxRecDepth 65536 in
set_option maxHeartbeats 40000000 in
theorem rm_a86 (l : Launch) (Z : State) (a0 : Array Value) (hw : ∀ d ∈ tables_1, d.before a0 Z = true) (h0 : Heap) {lo : Nat} (ka1 : Addr) (ka2 : Addr) (ka3 : Addr) (e0 : Addr × oD) (e1 : Addr × oD) (e2 : Addr × oD) (ka4 : Addr) (ka5 : Addr) (ia1 : Int32) (ia2 : Int32) (ia3 : Int32) (ia4 : Int32) (ia5 : Int32) (ia6 : Int32) (ka6 : Addr) (e7 : Addr × oD) (e8 : Addr × oD) (ka7 : Addr) (e10 : Addr × oD) (ka8 : Addr) (ka9 : Addr) (ka10 : Addr) (e12 : Addr × oD) (ds : oDs) (hy0 : ((oHd0.set ((oH ia1 ia2 ia3) &&& (15 : Int32)).toNatClampNeg (.int (0 : Int32))).set ((oH ia4 ia5 ia6) &&& (15 : Int32)).toNatClampNeg (.int (1 : Int32))).length.toInt32 = (16 : Int32)) (hy1 : ((oHd0.set ((oH ia1 ia2 ia3) &&& (15 : Int32)).toNatClampNeg (.int (0 : Int32))).set ((oH ia4 ia5 ia6) &&& (15 : Int32)).toNatClampNeg (.int (1 : Int32)))[((oH ia1 ia2 ia3) &&& (15 : Int32)).toNatClampNeg]? = some (.int (1 : Int32))) (hy2 : ¬ ((oH ia1 ia2 ia3) &&& (15 : Int32)) < (0 : Int32)) (hy3 : ¬ (ia4 = ia1 ∧ ia5 = ia2 ∧ ia6 = ia3)) :
    oMet l Z h0 lo (⟨"com/example/tanglemark/tanglemark/datalog/Relation", "newest", "(Lcom/example/tanglemark/tanglemark/datalog/Relation$Chains;[II)I"⟩ : MethodName) prog_45_method_15_code 5 (some .int) [] ({ frames := 2, cells := 0, slots := 0, locals := 31 } : Room) #[(.ref ka1), (.ref ka2), (.ref ka3), (.int (2 : Int32))] (e0 :: e1 :: e2 :: (ka4, oA .int [(.int (-1 : Int32)), o0, o0, o0, o0, o0, o0, o0, o0, o0, o0, o0, o0, o0, o0, o0]) :: (ka5, oA .int ((oHd0.set ((oH ia1 ia2 ia3) &&& (15 : Int32)).toNatClampNeg (.int (0 : Int32))).set ((oH ia4 ia5 ia6) &&& (15 : Int32)).toNatClampNeg (.int (1 : Int32)))) :: (ka6, oA .int [o0, (.int (1 : Int32)), (.int (2 : Int32))]) :: (ka2, oO cn3 [(fk18, (.ref ka6)), (fk19, (.ref ka5)), (fk20, (.ref ka4))]) :: e7 :: e8 :: (ka7, oA .int [(.int ia1), (.int ia2), (.int ia3), (.int ia4), (.int ia5), (.int ia6), o0, o0, o0, o0, o0, o0, o0, o0, o0, o0, o0, o0, o0, o0, o0, o0, o0, o0, o0, o0, o0, o0, o0, o0, o0, o0, o0, o0, o0, o0, o0, o0, o0, o0, o0, o0, o0, o0, o0, o0, o0, o0]) :: e10 :: (ka1, oO cn0 [(fk0, (.ref ka8)), (fk1, (.ref ka9)), (fk2, (.int (3 : Int32))), (fk3, (.int (2147483639 : Int32))), (fk4, (.int (1073741824 : Int32))), (fk5, (.ref ka7)), (fk6, (.ref ka10)), (fk7, .null), (fk8, (.int (0 : Int32))), (fk9, (.int (2 : Int32))), (fk10, (.ref ka2))]) :: e12 :: (ka3, oA .int [(.int ia1), (.int ia2), (.int ia3)]) :: ds) (fun (v : Option Value) (d : oDs) => (v = some (.int (0 : Int32)) ∧ (e0 :: e1 :: e2 :: (ka4, oA .int [(.int (-1 : Int32)), o0, o0, o0, o0, o0, o0, o0, o0, o0, o0, o0, o0, o0, o0, o0]) :: (ka5, oA .int ((oHd0.set ((oH ia1 ia2 ia3) &&& (15 : Int32)).toNatClampNeg (.int (0 : Int32))).set ((oH ia4 ia5 ia6) &&& (15 : Int32)).toNatClampNeg (.int (1 : Int32)))) :: (ka6, oA .int [o0, (.int (1 : Int32)), (.int (2 : Int32))]) :: (ka2, oO cn3 [(fk18, (.ref ka6)), (fk19, (.ref ka5)), (fk20, (.ref ka4))]) :: e7 :: e8 :: (ka7, oA .int [(.int ia1), (.int ia2), (.int ia3), (.int ia4), (.int ia5), (.int ia6), o0, o0, o0, o0, o0, o0, o0, o0, o0, o0, o0, o0, o0, o0, o0, o0, o0, o0, o0, o0, o0, o0, o0, o0, o0, o0, o0, o0, o0, o0, o0, o0, o0, o0, o0, o0, o0, o0, o0, o0, o0, o0]) :: e10 :: (ka1, oO cn0 [(fk0, (.ref ka8)), (fk1, (.ref ka9)), (fk2, (.int (3 : Int32))), (fk3, (.int (2147483639 : Int32))), (fk4, (.int (1073741824 : Int32))), (fk5, (.ref ka7)), (fk6, (.ref ka10)), (fk7, .null), (fk8, (.int (0 : Int32))), (fk9, (.int (2 : Int32))), (fk10, (.ref ka2))]) :: e12 :: (ka3, oA .int [(.int ia1), (.int ia2), (.int ia3)]) :: ds) = d)) := by
  refine oMet.of_body (plainFor_of_name pn_9) ?_
  intro p e s m below meth c T B hby hml hown hnm hret
  refine W_entry (ef_rm_a86 m ka1 ka2 ka3) ?_
  refine W_aloadN B (hb hby d29_0) (pc' := 1) rfl rfl rfl ?_
  refine W_aloadN B (hb hby d29_1) (pc' := 2) rfl rfl rfl ?_
  refine W_callS B (y := (⟨"com/example/tanglemark/tanglemark/datalog/Relation", "hash", "([I)I"⟩ : MethodName)) hown (ow hw (i := 226) rfl) (ow hw (i := 227) rfl) (ow hw (i := 3) rfl) (ow hw (i := 228) rfl) (by decide) (rm_a28 l Z a0 hw h0 ka3 _ _ _ _ _ _ _ _ _ _ _ _ _ ia1 ia2 ia3 _ ) (lenOf pd_17 rfl) (hb hby d29_2) (pc' := 5) rfl (argsL := [(.ref ka3)]) (rest := [(.ref ka2)]) rfl (by rw [hml]; rfl) (W := 1) (oLe rfl) (by decide) (cells' := 0) rfl (slots' := 0) rfl ?_
  intro T v_ d_ q_ B
  obtain ⟨rfl, rfl⟩ := q_
  show oWin p e below Z h0 _ _ (T.setTop (mkF m 5 #[.val (.ref ka1), .val (.ref ka2), .val (.ref ka3), .val (.int (2 : Int32)), .unset] [(.int (oH ia1 ia2 ia3)), (.ref ka2)]))
  refine W_callS B (y := (⟨"com/example/tanglemark/tanglemark/datalog/Relation", "first", "(Lcom/example/tanglemark/tanglemark/datalog/Relation$Chains;I)I"⟩ : MethodName)) hown (ow hw (i := 236) rfl) (ow hw (i := 237) rfl) (ow hw (i := 3) rfl) (ow hw (i := 238) rfl) (by decide) (rm_a82 l Z a0 hw h0 ka2 ia1 ia2 ia3 _ _ _ _ ka5 ia4 ia5 ia6 _ ka6 ka4 _ hy0 hy1 hy2) (lenOf pd_18 rfl) (hb hby d29_5) (pc' := 8) rfl (argsL := [(.ref ka2), (.int (oH ia1 ia2 ia3))]) (rest := []) rfl (by rw [hml]; rfl) (W := 0) (oLe rfl) (by decide) (cells' := 0) rfl (slots' := 0) rfl ?_
  intro T v_ d_ q_ B
  obtain ⟨rfl, rfl⟩ := q_
  show oWin p e below Z h0 _ _ (T.setTop (mkF m 8 #[.val (.ref ka1), .val (.ref ka2), .val (.ref ka3), .val (.int (2 : Int32)), .unset] [(.int (1 : Int32))]))
  refine W_istore B (hb hby d29_8) (pc' := 10) rfl (v := (1 : Int32)) rfl (ls' := #[.val (.ref ka1), .val (.ref ka2), .val (.ref ka3), .val (.int (2 : Int32)), .val (.int (1 : Int32))]) rfl ?_
  refine W_iload B (hb hby d29_10) (pc' := 12) rfl rfl ?_
  refine W_ifN B (hb hby d29_12) (pc' := 15) rfl (by decide) ?_
  refine W_iload B (hb hby d29_15) (pc' := 17) rfl rfl ?_
  refine W_iloadN B (hb hby d29_17) (pc' := 18) rfl rfl ?_
  refine W_icmpN B (hb hby d29_18) (pc' := 21) rfl (by decide) ?_
  refine W_aloadN B (hb hby d29_21) (pc' := 22) rfl rfl rfl ?_
  refine W_iload B (hb hby d29_22) (pc' := 24) rfl rfl ?_
  refine W_aloadN B (hb hby d29_24) (pc' := 25) rfl rfl rfl ?_
  refine W_getfield B hown (host := "") (Or.inl (ow hw (i := 274) rfl)) (Via.of (ow hw (i := 275) rfl)) (hb hby d29_25) (pc' := 28) rfl (j := 6) rfl (q := 0) rfl ?_
  intro T B
  refine W_aloadN B (hb hby d29_28) (pc' := 29) rfl rfl rfl ?_
  refine W_privateS B (y := (⟨"com/example/tanglemark/tanglemark/datalog/Relation", "hasKey", "(I[I[I)Z"⟩ : MethodName)) hown (ow hw (i := 280) rfl) (ow hw (i := 281) rfl) (ow hw (i := 2) rfl) (ow hw (i := 282) rfl) (ow hw (i := 3) rfl) (ow hw (i := 283) rfl) (by decide) (a := ka1) (rm_a83 l Z a0 hw h0 ka1 ka6 ka3 _ _ _ _ _ _ _ _ ka7 ia1 ia2 ia3 ia4 ia5 ia6 _ ka8 ka9 ka10 ka2 _ _ hy3) (lenOf pd_24 rfl) (hb hby d29_29) (pc' := 32) rfl (argsL := [(.int (1 : Int32)), (.ref ka6), (.ref ka3)]) (rest := []) rfl (by rw [hml]; rfl) (W := 0) (oLe rfl) (j := 11) rfl (by decide) (cells' := 0) rfl (slots' := 0) rfl ?_
  intro T v_ d_ q_ B
  obtain ⟨rfl, rfl⟩ := q_
  show oWin p e below Z h0 _ _ (T.setTop (mkF m 32 #[.val (.ref ka1), .val (.ref ka2), .val (.ref ka3), .val (.int (2 : Int32)), .val (.int (1 : Int32))] [(.int (0 : Int32))]))
  refine W_ifY B (hb hby d29_32) (by decide) (pc' := 38) (by decide) (by decide) ?_
  refine W_aloadN B (hb hby d29_38) (pc' := 39) rfl rfl rfl ?_
  refine W_iload B (hb hby d29_39) (pc' := 41) rfl rfl ?_
  refine W_callS B (y := (⟨"com/example/tanglemark/tanglemark/datalog/Relation", "next", "(Lcom/example/tanglemark/tanglemark/datalog/Relation$Chains;I)I"⟩ : MethodName)) hown (ow hw (i := 289) rfl) (ow hw (i := 290) rfl) (ow hw (i := 3) rfl) (ow hw (i := 291) rfl) (by decide) (rm_a84 l Z a0 hw h0 ka2 _ _ _ ka4 _ _ ka6 ka5 _ ) (lenOf pd_18 rfl) (hb hby d29_41) (pc' := 44) rfl (argsL := [(.ref ka2), (.int (1 : Int32))]) (rest := []) rfl (by rw [hml]; rfl) (W := 0) (oLe rfl) (by decide) (cells' := 0) rfl (slots' := 0) rfl ?_
  intro T v_ d_ q_ B
  obtain ⟨rfl, rfl⟩ := q_
  show oWin p e below Z h0 _ _ (T.setTop (mkF m 44 #[.val (.ref ka1), .val (.ref ka2), .val (.ref ka3), .val (.int (2 : Int32)), .val (.int (1 : Int32))] [(.int (0 : Int32))]))
  refine W_istore B (hb hby d29_44) (pc' := 46) rfl (v := (0 : Int32)) rfl (ls' := #[.val (.ref ka1), .val (.ref ka2), .val (.ref ka3), .val (.int (2 : Int32)), .val (.int (0 : Int32))]) rfl ?_
  refine W_goto B (hb hby d29_46) (by decide) (pc' := 10) (by decide) ?_
  refine W_iload B (hb hby d29_10) (pc' := 12) rfl rfl ?_
  refine W_ifN B (hb hby d29_12) (pc' := 15) rfl (by decide) ?_
  refine W_iload B (hb hby d29_15) (pc' := 17) rfl rfl ?_
  refine W_iloadN B (hb hby d29_17) (pc' := 18) rfl rfl ?_
  refine W_icmpN B (hb hby d29_18) (pc' := 21) rfl (by decide) ?_
  refine W_aloadN B (hb hby d29_21) (pc' := 22) rfl rfl rfl ?_
  refine W_iload B (hb hby d29_22) (pc' := 24) rfl rfl ?_
  refine W_aloadN B (hb hby d29_24) (pc' := 25) rfl rfl rfl ?_
  refine W_getfield B hown (host := "") (Or.inl (ow hw (i := 274) rfl)) (Via.of (ow hw (i := 275) rfl)) (hb hby d29_25) (pc' := 28) rfl (j := 6) rfl (q := 0) rfl ?_
  intro T B
  refine W_aloadN B (hb hby d29_28) (pc' := 29) rfl rfl rfl ?_
  refine W_privateS B (y := (⟨"com/example/tanglemark/tanglemark/datalog/Relation", "hasKey", "(I[I[I)Z"⟩ : MethodName)) hown (ow hw (i := 280) rfl) (ow hw (i := 281) rfl) (ow hw (i := 2) rfl) (ow hw (i := 282) rfl) (ow hw (i := 3) rfl) (ow hw (i := 283) rfl) (by decide) (a := ka1) (rm_a85 l Z a0 hw h0 ka1 ka6 ka3 _ _ _ _ _ _ _ _ ka7 ia1 ia2 ia3 ia4 ia5 ia6 _ ka8 ka9 ka10 ka2 _ _ ) (lenOf pd_24 rfl) (hb hby d29_29) (pc' := 32) rfl (argsL := [(.int (0 : Int32)), (.ref ka6), (.ref ka3)]) (rest := []) rfl (by rw [hml]; rfl) (W := 0) (oLe rfl) (j := 11) rfl (by decide) (cells' := 0) rfl (slots' := 0) rfl ?_
  intro T v_ d_ q_ B
  obtain ⟨rfl, rfl⟩ := q_
  show oWin p e below Z h0 _ _ (T.setTop (mkF m 32 #[.val (.ref ka1), .val (.ref ka2), .val (.ref ka3), .val (.int (2 : Int32)), .val (.int (0 : Int32))] [(.int (1 : Int32))]))
  refine W_ifN B (hb hby d29_32) (pc' := 35) rfl (by decide) ?_
  refine W_iload B (hb hby d29_35) (pc' := 37) rfl rfl ?_
  refine W_retI B hret (hb hby d29_37) (by decide) ?_
  exact ⟨rfl, rfl⟩
theorem ef_rm_a87 (m : MethodId) (x0 : Addr) (x1 : Addr) : entryFrame m #[(.ref x0), (.ref x1)] 2 = mkF m 0 #[.val (.ref x0), .val (.ref x1)] [] := by first | (simp [entryFrame, mkF, argsToLocals, Value.category]; done) | rfl
set_option maxRecDepth 65536 in
set_option maxHeartbeats 40000000 in
theorem rm_a87 (l : Launch) (Z : State) (a0 : Array Value) (hw : ∀ d ∈ tables_1, d.before a0 Z = true) (h0 : Heap) {lo : Nat} (ka1 : Addr) (ka2 : Addr) (e0 : Addr × oD) (e1 : Addr × oD) (e2 : Addr × oD) (ka3 : Addr) (ka4 : Addr) (ia1 : Int32) (ia2 : Int32) (ia3 : Int32) (ia4 : Int32) (ia5 : Int32) (ia6 : Int32) (ka5 : Addr) (ka6 : Addr) (e7 : Addr × oD) (e8 : Addr × oD) (ka7 : Addr) (e10 : Addr × oD) (ka8 : Addr) (ka9 : Addr) (ka10 : Addr) (e12 : Addr × oD) (ds : oDs) (hy0 : ((oHd0.set ((oH ia1 ia2 ia3) &&& (15 : Int32)).toNatClampNeg (.int (0 : Int32))).set ((oH ia4 ia5 ia6) &&& (15 : Int32)).toNatClampNeg (.int (1 : Int32))).length.toInt32 = (16 : Int32)) (hy1 : ((oHd0.set ((oH ia1 ia2 ia3) &&& (15 : Int32)).toNatClampNeg (.int (0 : Int32))).set ((oH ia4 ia5 ia6) &&& (15 : Int32)).toNatClampNeg (.int (1 : Int32)))[((oH ia1 ia2 ia3) &&& (15 : Int32)).toNatClampNeg]? = some (.int (1 : Int32))) (hy2 : ¬ ((oH ia1 ia2 ia3) &&& (15 : Int32)) < (0 : Int32)) (hy3 : ¬ (ia4 = ia1 ∧ ia5 = ia2 ∧ ia6 = ia3)) :
    oMet l Z h0 lo (⟨"com/example/tanglemark/tanglemark/datalog/Relation", "row", "([I)I"⟩ : MethodName) prog_45_method_14_code 2 (some .int) [] ({ frames := 3, cells := 0, slots := 0, locals := 47 } : Room) #[(.ref ka1), (.ref ka2)] (e0 :: e1 :: e2 :: (ka3, oA .int [(.int (-1 : Int32)), o0, o0, o0, o0, o0, o0, o0, o0, o0, o0, o0, o0, o0, o0, o0]) :: (ka4, oA .int ((oHd0.set ((oH ia1 ia2 ia3) &&& (15 : Int32)).toNatClampNeg (.int (0 : Int32))).set ((oH ia4 ia5 ia6) &&& (15 : Int32)).toNatClampNeg (.int (1 : Int32)))) :: (ka5, oA .int [o0, (.int (1 : Int32)), (.int (2 : Int32))]) :: (ka6, oO cn3 [(fk18, (.ref ka5)), (fk19, (.ref ka4)), (fk20, (.ref ka3))]) :: e7 :: e8 :: (ka7, oA .int [(.int ia1), (.int ia2), (.int ia3), (.int ia4), (.int ia5), (.int ia6), o0, o0, o0, o0, o0, o0, o0, o0, o0, o0, o0, o0, o0, o0, o0, o0, o0, o0, o0, o0, o0, o0, o0, o0, o0, o0, o0, o0, o0, o0, o0, o0, o0, o0, o0, o0, o0, o0, o0, o0, o0, o0]) :: e10 :: (ka1, oO cn0 [(fk0, (.ref ka8)), (fk1, (.ref ka9)), (fk2, (.int (3 : Int32))), (fk3, (.int (2147483639 : Int32))), (fk4, (.int (1073741824 : Int32))), (fk5, (.ref ka7)), (fk6, (.ref ka10)), (fk7, .null), (fk8, (.int (0 : Int32))), (fk9, (.int (2 : Int32))), (fk10, (.ref ka6))]) :: e12 :: (ka2, oA .int [(.int ia1), (.int ia2), (.int ia3)]) :: ds) (fun (v : Option Value) (d : oDs) => (v = some (.int (0 : Int32)) ∧ (e0 :: e1 :: e2 :: (ka3, oA .int [(.int (-1 : Int32)), o0, o0, o0, o0, o0, o0, o0, o0, o0, o0, o0, o0, o0, o0, o0]) :: (ka4, oA .int ((oHd0.set ((oH ia1 ia2 ia3) &&& (15 : Int32)).toNatClampNeg (.int (0 : Int32))).set ((oH ia4 ia5 ia6) &&& (15 : Int32)).toNatClampNeg (.int (1 : Int32)))) :: (ka5, oA .int [o0, (.int (1 : Int32)), (.int (2 : Int32))]) :: (ka6, oO cn3 [(fk18, (.ref ka5)), (fk19, (.ref ka4)), (fk20, (.ref ka3))]) :: e7 :: e8 :: (ka7, oA .int [(.int ia1), (.int ia2), (.int ia3), (.int ia4), (.int ia5), (.int ia6), o0, o0, o0, o0, o0, o0, o0, o0, o0, o0, o0, o0, o0, o0, o0, o0, o0, o0, o0, o0, o0, o0, o0, o0, o0, o0, o0, o0, o0, o0, o0, o0, o0, o0, o0, o0, o0, o0, o0, o0, o0, o0]) :: e10 :: (ka1, oO cn0 [(fk0, (.ref ka8)), (fk1, (.ref ka9)), (fk2, (.int (3 : Int32))), (fk3, (.int (2147483639 : Int32))), (fk4, (.int (1073741824 : Int32))), (fk5, (.ref ka7)), (fk6, (.ref ka10)), (fk7, .null), (fk8, (.int (0 : Int32))), (fk9, (.int (2 : Int32))), (fk10, (.ref ka6))]) :: e12 :: (ka2, oA .int [(.int ia1), (.int ia2), (.int ia3)]) :: ds) = d)) := by
  refine oMet.of_body (plainFor_of_name pn_9) ?_
  intro p e s m below meth c T B hby hml hown hnm hret
  refine W_entry (ef_rm_a87 m ka1 ka2) ?_
  refine W_aloadN B (hb hby d27_0) (pc' := 1) rfl rfl rfl ?_
  refine W_privateS B (y := (⟨"com/example/tanglemark/tanglemark/datalog/Relation", "requireOpen", "()V"⟩ : MethodName)) hown (ow hw (i := 217) rfl) (ow hw (i := 218) rfl) (ow hw (i := 2) rfl) (ow hw (i := 219) rfl) (ow hw (i := 3) rfl) (ow hw (i := 220) rfl) (by decide) (a := ka1) (rm_a81 l Z a0 hw h0 ka1 _ _ _ _ _ _ _ _ _ _ _ ka8 ka9 ka7 ka10 ka6 _ ) (lenOf pd_0 rfl) (hb hby d27_1) (pc' := 4) rfl (argsL := []) (rest := []) rfl (by rw [hml]; rfl) (W := 0) (oLe rfl) (j := 11) rfl (by decide) (cells' := 0) rfl (slots' := 0) rfl ?_
  intro T v_ d_ q_ B
  obtain ⟨rfl, rfl⟩ := q_
  show oWin p e below Z h0 _ _ (T.setTop (mkF m 4 #[.val (.ref ka1), .val (.ref ka2)] []))
  refine W_aloadN B (hb hby d27_4) (pc' := 5) rfl rfl rfl ?_
  refine W_aloadN B (hb hby d27_5) (pc' := 6) rfl rfl rfl ?_
  refine W_getfield B hown (host := "") (Or.inl (ow hw (i := 200) rfl)) Via.refl (hb hby d27_6) (pc' := 9) rfl (j := 11) rfl (q := 10) rfl ?_
  intro T B
  refine W_aloadN B (hb hby d27_9) (pc' := 10) rfl rfl rfl ?_
  refine W_aloadN B (hb hby d27_10) (pc' := 11) rfl rfl rfl ?_
  refine W_getfield B hown (host := "") (Or.inl (ow hw (i := 198) rfl)) Via.refl (hb hby d27_11) (pc' := 14) rfl (j := 11) rfl (q := 9) rfl ?_
  intro T B
  refine W_virtual B (y := (⟨"com/example/tanglemark/tanglemark/datalog/Relation", "newest", "(Lcom/example/tanglemark/tanglemark/datalog/Relation$Chains;[II)I"⟩ : MethodName)) (z := (⟨"com/example/tanglemark/tanglemark/datalog/Relation", "newest", "(Lcom/example/tanglemark/tanglemark/datalog/Relation$Chains;[II)I"⟩ : MethodName)) hown (ow hw (i := 221) rfl) (ow hw (i := 222) rfl) (oNotFace B (ow hw (i := 224) rfl) rfl) (ow hw (i := 224) rfl) (ow hw (i := 223) rfl) (ow hw (i := 3) rfl) (ow hw (i := 225) rfl) (by decide) (a := ka1) (rm_a86 l Z a0 hw h0 ka1 ka6 ka2 _ _ _ ka3 ka4 ia1 ia2 ia3 ia4 ia5 ia6 ka5 _ _ ka7 _ ka8 ka9 ka10 _ _ hy0 hy1 hy2 hy3) (lenOf pd_19 rfl) (hb hby d27_14) (pc' := 17) rfl (argsL := [(.ref ka6), (.ref ka2), (.int (2 : Int32))]) (rest := []) rfl (by rw [hml]; rfl) (W := 0) (oLe rfl) (j := 11) rfl (by decide) (cells' := 0) rfl (slots' := 0) rfl ?_
  intro T v_ d_ q_ B
  obtain ⟨rfl, rfl⟩ := q_
  show oWin p e below Z h0 _ _ (T.setTop (mkF m 17 #[.val (.ref ka1), .val (.ref ka2)] [(.int (0 : Int32))]))
  refine W_retI B hret (hb hby d27_17) (by decide) ?_
  exact ⟨rfl, rfl⟩
theorem ef_rm_a88 (m : MethodId) (x0 : Addr) (x1 : Addr) : entryFrame m #[(.ref x0), (.ref x1)] 2 = mkF m 0 #[.val (.ref x0), .val (.ref x1)] [] := by first | (simp [entryFrame, mkF, argsToLocals, Value.category]; done) | rfl
set_option maxRecDepth 65536 in
set_option maxHeartbeats 40000000 in
theorem rm_a88 (l : Launch) (Z : State) (a0 : Array Value) (hw : ∀ d ∈ tables_1, d.before a0 Z = true) (h0 : Heap) {lo : Nat} (ka1 : Addr) (ka2 : Addr) (e0 : Addr × oD) (e1 : Addr × oD) (e2 : Addr × oD) (ka3 : Addr) (ka4 : Addr) (ia1 : Int32) (ia2 : Int32) (ia3 : Int32) (ia4 : Int32) (ia5 : Int32) (ia6 : Int32) (ka5 : Addr) (ka6 : Addr) (e7 : Addr × oD) (e8 : Addr × oD) (ka7 : Addr) (e10 : Addr × oD) (ka8 : Addr) (ka9 : Addr) (ka10 : Addr) (e12 : Addr × oD) (ds : oDs) (hy0 : ((oHd0.set ((oH ia1 ia2 ia3) &&& (15 : Int32)).toNatClampNeg (.int (0 : Int32))).set ((oH ia4 ia5 ia6) &&& (15 : Int32)).toNatClampNeg (.int (1 : Int32))).length.toInt32 = (16 : Int32)) (hy1 : ((oHd0.set ((oH ia1 ia2 ia3) &&& (15 : Int32)).toNatClampNeg (.int (0 : Int32))).set ((oH ia4 ia5 ia6) &&& (15 : Int32)).toNatClampNeg (.int (1 : Int32)))[((oH ia1 ia2 ia3) &&& (15 : Int32)).toNatClampNeg]? = some (.int (1 : Int32))) (hy2 : ¬ ((oH ia1 ia2 ia3) &&& (15 : Int32)) < (0 : Int32)) (hy3 : ¬ (ia4 = ia1 ∧ ia5 = ia2 ∧ ia6 = ia3)) :
    oMet l Z h0 lo (⟨"com/example/tanglemark/tanglemark/datalog/Relation", "contains", "([I)Z"⟩ : MethodName) prog_45_method_13_code 2 (some .boolean) [] ({ frames := 4, cells := 0, slots := 0, locals := 60 } : Room) #[(.ref ka1), (.ref ka2)] (e0 :: e1 :: e2 :: (ka3, oA .int [(.int (-1 : Int32)), o0, o0, o0, o0, o0, o0, o0, o0, o0, o0, o0, o0, o0, o0, o0]) :: (ka4, oA .int ((oHd0.set ((oH ia1 ia2 ia3) &&& (15 : Int32)).toNatClampNeg (.int (0 : Int32))).set ((oH ia4 ia5 ia6) &&& (15 : Int32)).toNatClampNeg (.int (1 : Int32)))) :: (ka5, oA .int [o0, (.int (1 : Int32)), (.int (2 : Int32))]) :: (ka6, oO cn3 [(fk18, (.ref ka5)), (fk19, (.ref ka4)), (fk20, (.ref ka3))]) :: e7 :: e8 :: (ka7, oA .int [(.int ia1), (.int ia2), (.int ia3), (.int ia4), (.int ia5), (.int ia6), o0, o0, o0, o0, o0, o0, o0, o0, o0, o0, o0, o0, o0, o0, o0, o0, o0, o0, o0, o0, o0, o0, o0, o0, o0, o0, o0, o0, o0, o0, o0, o0, o0, o0, o0, o0, o0, o0, o0, o0, o0, o0]) :: e10 :: (ka1, oO cn0 [(fk0, (.ref ka8)), (fk1, (.ref ka9)), (fk2, (.int (3 : Int32))), (fk3, (.int (2147483639 : Int32))), (fk4, (.int (1073741824 : Int32))), (fk5, (.ref ka7)), (fk6, (.ref ka10)), (fk7, .null), (fk8, (.int (0 : Int32))), (fk9, (.int (2 : Int32))), (fk10, (.ref ka6))]) :: e12 :: (ka2, oA .int [(.int ia1), (.int ia2), (.int ia3)]) :: ds) (fun (v : Option Value) (d : oDs) => (v = some (.int (1 : Int32)) ∧ (e0 :: e1 :: e2 :: (ka3, oA .int [(.int (-1 : Int32)), o0, o0, o0, o0, o0, o0, o0, o0, o0, o0, o0, o0, o0, o0, o0]) :: (ka4, oA .int ((oHd0.set ((oH ia1 ia2 ia3) &&& (15 : Int32)).toNatClampNeg (.int (0 : Int32))).set ((oH ia4 ia5 ia6) &&& (15 : Int32)).toNatClampNeg (.int (1 : Int32)))) :: (ka5, oA .int [o0, (.int (1 : Int32)), (.int (2 : Int32))]) :: (ka6, oO cn3 [(fk18, (.ref ka5)), (fk19, (.ref ka4)), (fk20, (.ref ka3))]) :: e7 :: e8 :: (ka7, oA .int [(.int ia1), (.int ia2), (.int ia3), (.int ia4), (.int ia5), (.int ia6), o0, o0, o0, o0, o0, o0, o0, o0, o0, o0, o0, o0, o0, o0, o0, o0, o0, o0, o0, o0, o0, o0, o0, o0, o0, o0, o0, o0, o0, o0, o0, o0, o0, o0, o0, o0, o0, o0, o0, o0, o0, o0]) :: e10 :: (ka1, oO cn0 [(fk0, (.ref ka8)), (fk1, (.ref ka9)), (fk2, (.int (3 : Int32))), (fk3, (.int (2147483639 : Int32))), (fk4, (.int (1073741824 : Int32))), (fk5, (.ref ka7)), (fk6, (.ref ka10)), (fk7, .null), (fk8, (.int (0 : Int32))), (fk9, (.int (2 : Int32))), (fk10, (.ref ka6))]) :: e12 :: (ka2, oA .int [(.int ia1), (.int ia2), (.int ia3)]) :: ds) = d)) := by
  refine oMet.of_body (plainFor_of_name pn_9) ?_
  intro p e s m below meth c T B hby hml hown hnm hret
  refine W_entry (ef_rm_a88 m ka1 ka2) ?_
  refine W_aloadN B (hb hby d26_0) (pc' := 1) rfl rfl rfl ?_
  refine W_aloadN B (hb hby d26_1) (pc' := 2) rfl rfl rfl ?_
  refine W_virtual B (y := (⟨"com/example/tanglemark/tanglemark/datalog/Relation", "row", "([I)I"⟩ : MethodName)) (z := (⟨"com/example/tanglemark/tanglemark/datalog/Relation", "row", "([I)I"⟩ : MethodName)) hown (ow hw (i := 212) rfl) (ow hw (i := 213) rfl) (oNotFace B (ow hw (i := 215) rfl) rfl) (ow hw (i := 215) rfl) (ow hw (i := 214) rfl) (ow hw (i := 3) rfl) (ow hw (i := 216) rfl) (by decide) (a := ka1) (rm_a87 l Z a0 hw h0 ka1 ka2 _ _ _ ka3 ka4 ia1 ia2 ia3 ia4 ia5 ia6 ka5 ka6 _ _ ka7 _ ka8 ka9 ka10 _ _ hy0 hy1 hy2 hy3) (lenOf pd_17 rfl) (hb hby d26_2) (pc' := 5) rfl (argsL := [(.ref ka2)]) (rest := []) rfl (by rw [hml]; rfl) (W := 0) (oLe rfl) (j := 11) rfl (by decide) (cells' := 0) rfl (slots' := 0) rfl ?_
  intro T v_ d_ q_ B
  obtain ⟨rfl, rfl⟩ := q_
  show oWin p e below Z h0 _ _ (T.setTop (mkF m 5 #[.val (.ref ka1), .val (.ref ka2)] [(.int (0 : Int32))]))
  refine W_ifN B (hb hby d26_5) (pc' := 8) rfl (by decide) ?_
  refine W_iconst B (hb hby d26_8) (pc' := 9) rfl (z := (1 : Int32)) (by decide) ?_
  refine W_goto B (hb hby d26_9) (by decide) (pc' := 13) (by decide) ?_
  refine W_retN B hret (by simp) (hb hby d26_13) (by decide) ?_
  exact ⟨rfl, rfl⟩
theorem ef_rm_a89 (m : MethodId) (x0 : Addr) (x1 : Addr) : entryFrame m #[(.ref x0), (.ref x1)] 2 = mkF m 0 #[.val (.ref x0), .val (.ref x1)] [] := by first | (simp [entryFrame, mkF, argsToLocals, Value.category]; done) | rfl
set_option maxRecDepth 65536 in
set_option maxHeartbeats 40000000 in
theorem rm_a89 (l : Launch) (Z : State) (a0 : Array Value) (hw : ∀ d ∈ tables_1, d.before a0 Z = true) (h0 : Heap) {lo : Nat} (ka1 : Addr) (ka2 : Addr) (e0 : Addr × oD) (e1 : Addr × oD) (e2 : Addr × oD) (ka3 : Addr) (ka4 : Addr) (ia1 : Int32) (ia2 : Int32) (ia3 : Int32) (ia4 : Int32) (ia5 : Int32) (ia6 : Int32) (ka5 : Addr) (ka6 : Addr) (e7 : Addr × oD) (e8 : Addr × oD) (ka7 : Addr) (e10 : Addr × oD) (ka8 : Addr) (ka9 : Addr) (ka10 : Addr) (e12 : Addr × oD) (ds : oDs) (hy0 : ((oHd0.set ((oH ia1 ia2 ia3) &&& (15 : Int32)).toNatClampNeg (.int (0 : Int32))).set ((oH ia4 ia5 ia6) &&& (15 : Int32)).toNatClampNeg (.int (1 : Int32))).length.toInt32 = (16 : Int32)) (hy1 : ((oHd0.set ((oH ia1 ia2 ia3) &&& (15 : Int32)).toNatClampNeg (.int (0 : Int32))).set ((oH ia4 ia5 ia6) &&& (15 : Int32)).toNatClampNeg (.int (1 : Int32)))[((oH ia1 ia2 ia3) &&& (15 : Int32)).toNatClampNeg]? = some (.int (1 : Int32))) (hy2 : ¬ ((oH ia1 ia2 ia3) &&& (15 : Int32)) < (0 : Int32)) (hy3 : ¬ (ia4 = ia1 ∧ ia5 = ia2 ∧ ia6 = ia3)) :
    oMet l Z h0 lo (⟨"com/example/tanglemark/tanglemark/datalog/Relation", "add", "([I)Z"⟩ : MethodName) prog_45_method_8_code 2 (some .boolean) [] ({ frames := 5, cells := 0, slots := 0, locals := 73 } : Room) #[(.ref ka1), (.ref ka2)] (e0 :: e1 :: e2 :: (ka3, oA .int [(.int (-1 : Int32)), o0, o0, o0, o0, o0, o0, o0, o0, o0, o0, o0, o0, o0, o0, o0]) :: (ka4, oA .int ((oHd0.set ((oH ia1 ia2 ia3) &&& (15 : Int32)).toNatClampNeg (.int (0 : Int32))).set ((oH ia4 ia5 ia6) &&& (15 : Int32)).toNatClampNeg (.int (1 : Int32)))) :: (ka5, oA .int [o0, (.int (1 : Int32)), (.int (2 : Int32))]) :: (ka6, oO cn3 [(fk18, (.ref ka5)), (fk19, (.ref ka4)), (fk20, (.ref ka3))]) :: e7 :: e8 :: (ka7, oA .int [(.int ia1), (.int ia2), (.int ia3), (.int ia4), (.int ia5), (.int ia6), o0, o0, o0, o0, o0, o0, o0, o0, o0, o0, o0, o0, o0, o0, o0, o0, o0, o0, o0, o0, o0, o0, o0, o0, o0, o0, o0, o0, o0, o0, o0, o0, o0, o0, o0, o0, o0, o0, o0, o0, o0, o0]) :: e10 :: (ka1, oO cn0 [(fk0, (.ref ka8)), (fk1, (.ref ka9)), (fk2, (.int (3 : Int32))), (fk3, (.int (2147483639 : Int32))), (fk4, (.int (1073741824 : Int32))), (fk5, (.ref ka7)), (fk6, (.ref ka10)), (fk7, .null), (fk8, (.int (0 : Int32))), (fk9, (.int (2 : Int32))), (fk10, (.ref ka6))]) :: e12 :: (ka2, oA .int [(.int ia1), (.int ia2), (.int ia3)]) :: ds) (fun (v : Option Value) (d : oDs) => (v = some (.int (0 : Int32)) ∧ (e0 :: e1 :: e2 :: (ka3, oA .int [(.int (-1 : Int32)), o0, o0, o0, o0, o0, o0, o0, o0, o0, o0, o0, o0, o0, o0, o0]) :: (ka4, oA .int ((oHd0.set ((oH ia1 ia2 ia3) &&& (15 : Int32)).toNatClampNeg (.int (0 : Int32))).set ((oH ia4 ia5 ia6) &&& (15 : Int32)).toNatClampNeg (.int (1 : Int32)))) :: (ka5, oA .int [o0, (.int (1 : Int32)), (.int (2 : Int32))]) :: (ka6, oO cn3 [(fk18, (.ref ka5)), (fk19, (.ref ka4)), (fk20, (.ref ka3))]) :: e7 :: e8 :: (ka7, oA .int [(.int ia1), (.int ia2), (.int ia3), (.int ia4), (.int ia5), (.int ia6), o0, o0, o0, o0, o0, o0, o0, o0, o0, o0, o0, o0, o0, o0, o0, o0, o0, o0, o0, o0, o0, o0, o0, o0, o0, o0, o0, o0, o0, o0, o0, o0, o0, o0, o0, o0, o0, o0, o0, o0, o0, o0]) :: e10 :: (ka1, oO cn0 [(fk0, (.ref ka8)), (fk1, (.ref ka9)), (fk2, (.int (3 : Int32))), (fk3, (.int (2147483639 : Int32))), (fk4, (.int (1073741824 : Int32))), (fk5, (.ref ka7)), (fk6, (.ref ka10)), (fk7, .null), (fk8, (.int (0 : Int32))), (fk9, (.int (2 : Int32))), (fk10, (.ref ka6))]) :: e12 :: (ka2, oA .int [(.int ia1), (.int ia2), (.int ia3)]) :: ds) = d)) := by
  refine oMet.of_body (plainFor_of_name pn_9) ?_
  intro p e s m below meth c T B hby hml hown hnm hret
  refine W_entry (ef_rm_a89 m ka1 ka2) ?_
  refine W_aloadN B (hb hby d25_0) (pc' := 1) rfl rfl rfl ?_
  refine W_aloadN B (hb hby d25_1) (pc' := 2) rfl rfl rfl ?_
  refine W_virtual B (y := (⟨"com/example/tanglemark/tanglemark/datalog/Relation", "contains", "([I)Z"⟩ : MethodName)) (z := (⟨"com/example/tanglemark/tanglemark/datalog/Relation", "contains", "([I)Z"⟩ : MethodName)) hown (ow hw (i := 207) rfl) (ow hw (i := 208) rfl) (oNotFace B (ow hw (i := 210) rfl) rfl) (ow hw (i := 210) rfl) (ow hw (i := 209) rfl) (ow hw (i := 3) rfl) (ow hw (i := 211) rfl) (by decide) (a := ka1) (rm_a88 l Z a0 hw h0 ka1 ka2 _ _ _ ka3 ka4 ia1 ia2 ia3 ia4 ia5 ia6 ka5 ka6 _ _ ka7 _ ka8 ka9 ka10 _ _ hy0 hy1 hy2 hy3) (lenOf pd_20 rfl) (hb hby d25_2) (pc' := 5) rfl (argsL := [(.ref ka2)]) (rest := []) rfl (by rw [hml]; rfl) (W := 0) (oLe rfl) (j := 11) rfl (by decide) (cells' := 0) rfl (slots' := 0) rfl ?_
  intro T v_ d_ q_ B
  obtain ⟨rfl, rfl⟩ := q_
  show oWin p e below Z h0 _ _ (T.setTop (mkF m 5 #[.val (.ref ka1), .val (.ref ka2)] [(.int (1 : Int32))]))
  refine W_ifN B (hb hby d25_5) (pc' := 8) rfl (by decide) ?_
  refine W_iconst B (hb hby d25_8) (pc' := 9) rfl (z := (0 : Int32)) (by decide) ?_
  refine W_retN B hret (by simp) (hb hby d25_9) (by decide) ?_
  exact ⟨rfl, rfl⟩
theorem ef_rm_a90 (m : MethodId) (x0 : Addr) (x1 : Int32) : entryFrame m #[(.ref x0), (.int x1)] 2 = mkF m 0 #[.val (.ref x0), .val (.int x1)] [] := by first | (simp [entryFrame, mkF, argsToLocals, Value.category]; done) | rfl
set_option maxRecDepth 65536 in
set_option maxHeartbeats 40000000 in
theorem rm_a90 (l : Launch) (Z : State) (a0 : Array Value) (hw : ∀ d ∈ tables_1, d.before a0 Z = true) (h0 : Heap) {lo : Nat} (ka1 : Addr) (ia1 : Int32) (ia2 : Int32) (ia3 : Int32) (e0 : Addr × oD) (e1 : Addr × oD) (e2 : Addr × oD) (e3 : Addr × oD) (ka2 : Addr) (ia4 : Int32) (ia5 : Int32) (ia6 : Int32) (e5 : Addr × oD) (ka3 : Addr) (ka4 : Addr) (ds : oDs) (hy0 : ((oHd0.set ((oH ia4 ia5 ia6) &&& (15 : Int32)).toNatClampNeg (.int (0 : Int32))).set ((oH ia1 ia2 ia3) &&& (15 : Int32)).toNatClampNeg (.int (1 : Int32))).length.toInt32 = (16 : Int32)) (hy1 : ((oHd0.set ((oH ia4 ia5 ia6) &&& (15 : Int32)).toNatClampNeg (.int (0 : Int32))).set ((oH ia1 ia2 ia3) &&& (15 : Int32)).toNatClampNeg (.int (1 : Int32)))[((oH ia1 ia2 ia3) &&& (15 : Int32)).toNatClampNeg]? = some (.int (1 : Int32))) (hy2 : ¬ ((oH ia1 ia2 ia3) &&& (15 : Int32)) < (0 : Int32)) :
    oMet l Z h0 lo (⟨"com/example/tanglemark/tanglemark/datalog/Relation", "first", "(Lcom/example/tanglemark/tanglemark/datalog/Relation$Chains;I)I"⟩ : MethodName) prog_45_method_28_code 2 (some .int) [] ({ frames := 0, cells := 0, slots := 0, locals := 0 } : Room) #[(.ref ka1), (.int (oH ia1 ia2 ia3))] (e0 :: e1 :: e2 :: e3 :: (ka2, oA .int ((oHd0.set ((oH ia4 ia5 ia6) &&& (15 : Int32)).toNatClampNeg (.int (0 : Int32))).set ((oH ia1 ia2 ia3) &&& (15 : Int32)).toNatClampNeg (.int (1 : Int32)))) :: e5 :: (ka1, oO cn3 [(fk18, (.ref ka3)), (fk19, (.ref ka2)), (fk20, (.ref ka4))]) :: ds) (fun (v : Option Value) (d : oDs) => (v = some (.int (1 : Int32)) ∧ (e0 :: e1 :: e2 :: e3 :: (ka2, oA .int ((oHd0.set ((oH ia4 ia5 ia6) &&& (15 : Int32)).toNatClampNeg (.int (0 : Int32))).set ((oH ia1 ia2 ia3) &&& (15 : Int32)).toNatClampNeg (.int (1 : Int32)))) :: e5 :: (ka1, oO cn3 [(fk18, (.ref ka3)), (fk19, (.ref ka2)), (fk20, (.ref ka4))]) :: ds) = d)) := by
  refine oMet.of_body (plainFor_of_name pn_9) ?_
  intro p e s m below meth c T B hby hml hown hnm hret
  refine W_entry (ef_rm_a90 m ka1 (oH ia1 ia2 ia3)) ?_
  refine W_aloadN B (hb hby d33_0) (pc' := 1) rfl rfl rfl ?_
  refine W_getfieldR B hown (ow hw (i := 239) rfl) (hb hby d33_1) (pc' := 4) rfl (j := 6) rfl (q := 1) rfl ?_
  refine W_iloadN B (hb hby d33_4) (pc' := 5) rfl rfl ?_
  refine W_aloadN B (hb hby d33_5) (pc' := 6) rfl rfl rfl ?_
  refine W_getfieldR B hown (ow hw (i := 239) rfl) (hb hby d33_6) (pc' := 9) rfl (j := 6) rfl (q := 1) rfl ?_
  refine W_arraylength B (hb hby d33_9) (pc' := 10) rfl (j := 4) rfl (z := (16 : Int32)) hy0 ?_
  refine W_iconst B (hb hby d33_10) (pc' := 11) rfl (z := (1 : Int32)) (by decide) ?_
  refine W_isub B (hb hby d33_11) (pc' := 12) rfl (z := (15 : Int32)) (by decide) ?_
  refine W_iand B (hb hby d33_12) (pc' := 13) rfl (z := ((oH ia1 ia2 ia3) &&& (15 : Int32))) rfl ?_
  refine W_iaload B (hb hby d33_13) (pc' := 14) rfl (i := 4) rfl hy2 (v := (.int (1 : Int32))) hy1 ?_
  refine W_retI B hret (hb hby d33_14) (by decide) ?_
  exact ⟨rfl, rfl⟩
theorem ef_rm_a91 (m : MethodId) (x0 : Addr) (x2 : Addr) (x3 : Addr) : entryFrame m #[(.ref x0), (.int (1 : Int32)), (.ref x2), (.ref x3)] 6 = mkF m 0 #[.val (.ref x0), .val (.int (1 : Int32)), .val (.ref x2), .val (.ref x3), .unset, .unset] [] := by first | (simp [entryFrame, mkF, argsToLocals, Value.category]; done) | rfl
set_option maxRecDepth 65536 in
set_option maxHeartbeats 40000000 in
theorem rm_a91 (l : Launch) (Z : State) (a0 : Array Value) (hw : ∀ d ∈ tables_1, d.before a0 Z = true) (h0 : Heap) {lo : Nat} (ka1 : Addr) (ka2 : Addr) (ka3 : Addr) (e0 : Addr × oD) (e1 : Addr × oD) (e2 : Addr × oD) (e3 : Addr × oD) (e4 : Addr × oD) (e6 : Addr × oD) (e7 : Addr × oD) (e8 : Addr × oD) (ka4 : Addr) (ia1 : Int32) (ia2 : Int32) (ia3 : Int32) (ia4 : Int32) (ia5 : Int32) (ia6 : Int32) (e10 : Addr × oD) (ka5 : Addr) (ka6 : Addr) (ka7 : Addr) (ka8 : Addr) (ds : oDs) :
    oMet l Z h0 lo (⟨"com/example/tanglemark/tanglemark/datalog/Relation", "hasKey", "(I[I[I)Z"⟩ : MethodName) prog_45_method_17_code 6 (some .boolean) [] ({ frames := 0, cells := 0, slots := 0, locals := 0 } : Room) #[(.ref ka1), (.int (1 : Int32)), (.ref ka2), (.ref ka3)] (e0 :: e1 :: e2 :: e3 :: e4 :: (ka2, oA .int [o0, (.int (1 : Int32)), (.int (2 : Int32))]) :: e6 :: e7 :: e8 :: (ka4, oA .int [(.int ia1), (.int ia2), (.int ia3), (.int ia4), (.int ia5), (.int ia6), o0, o0, o0, o0, o0, o0, o0, o0, o0, o0, o0, o0, o0, o0, o0, o0, o0, o0, o0, o0, o0, o0, o0, o0, o0, o0, o0, o0, o0, o0, o0, o0, o0, o0, o0, o0, o0, o0, o0, o0, o0, o0]) :: e10 :: (ka1, oO cn0 [(fk0, (.ref ka5)), (fk1, (.ref ka6)), (fk2, (.int (3 : Int32))), (fk3, (.int (2147483639 : Int32))), (fk4, (.int (1073741824 : Int32))), (fk5, (.ref ka4)), (fk6, (.ref ka7)), (fk7, .null), (fk8, (.int (0 : Int32))), (fk9, (.int (2 : Int32))), (fk10, (.ref ka8))]) :: (ka3, oA .int [(.int ia4), (.int ia5), (.int ia6)]) :: ds) (fun (v : Option Value) (d : oDs) => (v = some (.int (1 : Int32)) ∧ (e0 :: e1 :: e2 :: e3 :: e4 :: (ka2, oA .int [o0, (.int (1 : Int32)), (.int (2 : Int32))]) :: e6 :: e7 :: e8 :: (ka4, oA .int [(.int ia1), (.int ia2), (.int ia3), (.int ia4), (.int ia5), (.int ia6), o0, o0, o0, o0, o0, o0, o0, o0, o0, o0, o0, o0, o0, o0, o0, o0, o0, o0, o0, o0, o0, o0, o0, o0, o0, o0, o0, o0, o0, o0, o0, o0, o0, o0, o0, o0, o0, o0, o0, o0, o0, o0]) :: e10 :: (ka1, oO cn0 [(fk0, (.ref ka5)), (fk1, (.ref ka6)), (fk2, (.int (3 : Int32))), (fk3, (.int (2147483639 : Int32))), (fk4, (.int (1073741824 : Int32))), (fk5, (.ref ka4)), (fk6, (.ref ka7)), (fk7, .null), (fk8, (.int (0 : Int32))), (fk9, (.int (2 : Int32))), (fk10, (.ref ka8))]) :: (ka3, oA .int [(.int ia4), (.int ia5), (.int ia6)]) :: ds) = d)) := by
  refine oMet.of_body (plainFor_of_name pn_9) ?_
  intro p e s m below meth c T B hby hml hown hnm hret
  refine W_entry (ef_rm_a91 m ka1 ka2 ka3) ?_
  refine W_iloadN B (hb hby d40_0) (pc' := 1) rfl rfl ?_
  refine W_aloadN B (hb hby d40_1) (pc' := 2) rfl rfl rfl ?_
  refine W_getfield B hown (host := "") (Or.inl (ow hw (i := 50) rfl)) Via.refl (hb hby d40_2) (pc' := 5) rfl (j := 11) rfl (q := 2) rfl ?_
  intro T B
  refine W_imul B (hb hby d40_5) (pc' := 6) rfl (z := (3 : Int32)) (by decide) ?_
  refine W_istore B (hb hby d40_6) (pc' := 8) rfl (v := (3 : Int32)) rfl (ls' := #[.val (.ref ka1), .val (.int (1 : Int32)), .val (.ref ka2), .val (.ref ka3), .val (.int (3 : Int32)), .unset]) rfl ?_
  refine W_iconst B (hb hby d40_8) (pc' := 9) rfl (z := (0 : Int32)) (by decide) ?_
  refine W_istore B (hb hby d40_9) (pc' := 11) rfl (v := (0 : Int32)) rfl (ls' := #[.val (.ref ka1), .val (.int (1 : Int32)), .val (.ref ka2), .val (.ref ka3), .val (.int (3 : Int32)), .val (.int (0 : Int32))]) rfl ?_
  refine W_iload B (hb hby d40_11) (pc' := 13) rfl rfl ?_
  refine W_aloadN B (hb hby d40_13) (pc' := 14) rfl rfl rfl ?_
  refine W_arraylength B (hb hby d40_14) (pc' := 15) rfl (j := 5) rfl (z := (3 : Int32)) rfl ?_
  refine W_icmpN B (hb hby d40_15) (pc' := 18) rfl (by decide) ?_
  refine W_aloadN B (hb hby d40_18) (pc' := 19) rfl rfl rfl ?_
  refine W_getfield B hown (host := "") (Or.inl (ow hw (i := 69) rfl)) Via.refl (hb hby d40_19) (pc' := 22) rfl (j := 11) rfl (q := 5) rfl ?_
  intro T B
  refine W_iload B (hb hby d40_22) (pc' := 24) rfl rfl ?_
  refine W_aloadN B (hb hby d40_24) (pc' := 25) rfl rfl rfl ?_
  refine W_iload B (hb hby d40_25) (pc' := 27) rfl rfl ?_
  refine W_iaload B (hb hby d40_27) (pc' := 28) rfl (i := 5) rfl (by decide) (v := (.int (0 : Int32))) rfl ?_
  refine W_iadd B (hb hby d40_28) (pc' := 29) rfl (z := (3 : Int32)) (by decide) ?_
  refine W_iaload B (hb hby d40_29) (pc' := 30) rfl (i := 9) rfl (by decide) (v := (.int ia4)) rfl ?_
  refine W_aloadN B (hb hby d40_30) (pc' := 31) rfl rfl rfl ?_
  refine W_iload B (hb hby d40_31) (pc' := 33) rfl rfl ?_
  refine W_iaload B (hb hby d40_33) (pc' := 34) rfl (i := 12) rfl (by decide) (v := (.int ia4)) rfl ?_
  refine W_icmpY B (hb hby d40_34) (by decide) (pc' := 39) (by decide) (teq (rfl : ia4 = ia4)).1 ?_
  refine W_iinc B (hb hby d40_39) (pc' := 42) rfl rfl (z := (1 : Int32)) (by decide) (ls' := #[.val (.ref ka1), .val (.int (1 : Int32)), .val (.ref ka2), .val (.ref ka3), .val (.int (3 : Int32)), .val (.int (1 : Int32))]) rfl ?_
  refine W_goto B (hb hby d40_42) (by decide) (pc' := 11) (by decide) ?_
  refine W_iload B (hb hby d40_11) (pc' := 13) rfl rfl ?_
  refine W_aloadN B (hb hby d40_13) (pc' := 14) rfl rfl rfl ?_
  refine W_arraylength B (hb hby d40_14) (pc' := 15) rfl (j := 5) rfl (z := (3 : Int32)) rfl ?_
  refine W_icmpN B (hb hby d40_15) (pc' := 18) rfl (by decide) ?_
  refine W_aloadN B (hb hby d40_18) (pc' := 19) rfl rfl rfl ?_
  refine W_getfield B hown (host := "") (Or.inl (ow hw (i := 69) rfl)) Via.refl (hb hby d40_19) (pc' := 22) rfl (j := 11) rfl (q := 5) rfl ?_
  intro T B
  refine W_iload B (hb hby d40_22) (pc' := 24) rfl rfl ?_
  refine W_aloadN B (hb hby d40_24) (pc' := 25) rfl rfl rfl ?_
  refine W_iload B (hb hby d40_25) (pc' := 27) rfl rfl ?_
  refine W_iaload B (hb hby d40_27) (pc' := 28) rfl (i := 5) rfl (by decide) (v := (.int (1 : Int32))) rfl ?_
  refine W_iadd B (hb hby d40_28) (pc' := 29) rfl (z := (4 : Int32)) (by decide) ?_
  refine W_iaload B (hb hby d40_29) (pc' := 30) rfl (i := 9) rfl (by decide) (v := (.int ia5)) rfl ?_
  refine W_aloadN B (hb hby d40_30) (pc' := 31) rfl rfl rfl ?_
  refine W_iload B (hb hby d40_31) (pc' := 33) rfl rfl ?_
  refine W_iaload B (hb hby d40_33) (pc' := 34) rfl (i := 12) rfl (by decide) (v := (.int ia5)) rfl ?_
  refine W_icmpY B (hb hby d40_34) (by decide) (pc' := 39) (by decide) (teq (rfl : ia5 = ia5)).1 ?_
  refine W_iinc B (hb hby d40_39) (pc' := 42) rfl rfl (z := (2 : Int32)) (by decide) (ls' := #[.val (.ref ka1), .val (.int (1 : Int32)), .val (.ref ka2), .val (.ref ka3), .val (.int (3 : Int32)), .val (.int (2 : Int32))]) rfl ?_
  refine W_goto B (hb hby d40_42) (by decide) (pc' := 11) (by decide) ?_
  refine W_iload B (hb hby d40_11) (pc' := 13) rfl rfl ?_
  refine W_aloadN B (hb hby d40_13) (pc' := 14) rfl rfl rfl ?_
  refine W_arraylength B (hb hby d40_14) (pc' := 15) rfl (j := 5) rfl (z := (3 : Int32)) rfl ?_
  refine W_icmpN B (hb hby d40_15) (pc' := 18) rfl (by decide) ?_
  refine W_aloadN B (hb hby d40_18) (pc' := 19) rfl rfl rfl ?_
  refine W_getfield B hown (host := "") (Or.inl (ow hw (i := 69) rfl)) Via.refl (hb hby d40_19) (pc' := 22) rfl (j := 11) rfl (q := 5) rfl ?_
  intro T B
  refine W_iload B (hb hby d40_22) (pc' := 24) rfl rfl ?_
  refine W_aloadN B (hb hby d40_24) (pc' := 25) rfl rfl rfl ?_
  refine W_iload B (hb hby d40_25) (pc' := 27) rfl rfl ?_
  refine W_iaload B (hb hby d40_27) (pc' := 28) rfl (i := 5) rfl (by decide) (v := (.int (2 : Int32))) rfl ?_
  refine W_iadd B (hb hby d40_28) (pc' := 29) rfl (z := (5 : Int32)) (by decide) ?_
  refine W_iaload B (hb hby d40_29) (pc' := 30) rfl (i := 9) rfl (by decide) (v := (.int ia6)) rfl ?_
  refine W_aloadN B (hb hby d40_30) (pc' := 31) rfl rfl rfl ?_
  refine W_iload B (hb hby d40_31) (pc' := 33) rfl rfl ?_
  refine W_iaload B (hb hby d40_33) (pc' := 34) rfl (i := 12) rfl (by decide) (v := (.int ia6)) rfl ?_
  refine W_icmpY B (hb hby d40_34) (by decide) (pc' := 39) (by decide) (teq (rfl : ia6 = ia6)).1 ?_
  refine W_iinc B (hb hby d40_39) (pc' := 42) rfl rfl (z := (3 : Int32)) (by decide) (ls' := #[.val (.ref ka1), .val (.int (1 : Int32)), .val (.ref ka2), .val (.ref ka3), .val (.int (3 : Int32)), .val (.int (3 : Int32))]) rfl ?_
  refine W_goto B (hb hby d40_42) (by decide) (pc' := 11) (by decide) ?_
  refine W_iload B (hb hby d40_11) (pc' := 13) rfl rfl ?_
  refine W_aloadN B (hb hby d40_13) (pc' := 14) rfl rfl rfl ?_
  refine W_arraylength B (hb hby d40_14) (pc' := 15) rfl (j := 5) rfl (z := (3 : Int32)) rfl ?_
  refine W_icmpY B (hb hby d40_15) (by decide) (pc' := 45) (by decide) (by decide) ?_
  refine W_iconst B (hb hby d40_45) (pc' := 46) rfl (z := (1 : Int32)) (by decide) ?_
  refine W_retN B hret (by simp) (hb hby d40_46) (by decide) ?_
  exact ⟨rfl, rfl⟩
theorem ef_rm_a92 (m : MethodId) (x0 : Addr) (x1 : Addr) (x2 : Addr) : entryFrame m #[(.ref x0), (.ref x1), (.ref x2), (.int (2 : Int32))] 5 = mkF m 0 #[.val (.ref x0), .val (.ref x1), .val (.ref x2), .val (.int (2 : Int32)), .unset] [] := by first | (simp [entryFrame, mkF, argsToLocals, Value.category]; done) | rfl
set_option maxRecDepth 65536 in
set_option maxHeartbeats 40000000 in
theorem rm_a92 (l : Launch) (Z : State) (a0 : Array Value) (hw : ∀ d ∈ tables_1, d.before a0 Z = true) (h0 : Heap) {lo : Nat} (ka1 : Addr) (ka2 : Addr) (ka3 : Addr) (e0 : Addr × oD) (e1 : Addr × oD) (e2 : Addr × oD) (e3 : Addr × oD) (ka4 : Addr) (ia1 : Int32) (ia2 : Int32) (ia3 : Int32) (ia4 : Int32) (ia5 : Int32) (ia6 : Int32) (ka5 : Addr) (ka6 : Addr) (e7 : Addr × oD) (e8 : Addr × oD) (ka7 : Addr) (e10 : Addr × oD) (ka8 : Addr) (ka9 : Addr) (ka10 : Addr) (ds : oDs) (hy0 : ((oHd0.set ((oH ia1 ia2 ia3) &&& (15 : Int32)).toNatClampNeg (.int (0 : Int32))).set ((oH ia4 ia5 ia6) &&& (15 : Int32)).toNatClampNeg (.int (1 : Int32))).length.toInt32 = (16 : Int32)) (hy1 : ((oHd0.set ((oH ia1 ia2 ia3) &&& (15 : Int32)).toNatClampNeg (.int (0 : Int32))).set ((oH ia4 ia5 ia6) &&& (15 : Int32)).toNatClampNeg (.int (1 : Int32)))[((oH ia4 ia5 ia6) &&& (15 : Int32)).toNatClampNeg]? = some (.int (1 : Int32))) (hy2 : ¬ ((oH ia4 ia5 ia6) &&& (15 : Int32)) < (0 : Int32)) :
    oMet l Z h0 lo (⟨"com/example/tanglemark/tanglemark/datalog/Relation", "newest", "(Lcom/example/tanglemark/tanglemark/datalog/Relation$Chains;[II)I"⟩ : MethodName) prog_45_method_15_code 5 (some .int) [] ({ frames := 2, cells := 0, slots := 0, locals := 31 } : Room) #[(.ref ka1), (.ref ka2), (.ref ka3), (.int (2 : Int32))] (e0 :: e1 :: e2 :: e3 :: (ka4, oA .int ((oHd0.set ((oH ia1 ia2 ia3) &&& (15 : Int32)).toNatClampNeg (.int (0 : Int32))).set ((oH ia4 ia5 ia6) &&& (15 : Int32)).toNatClampNeg (.int (1 : Int32)))) :: (ka5, oA .int [o0, (.int (1 : Int32)), (.int (2 : Int32))]) :: (ka2, oO cn3 [(fk18, (.ref ka5)), (fk19, (.ref ka4)), (fk20, (.ref ka6))]) :: e7 :: e8 :: (ka7, oA .int [(.int ia1), (.int ia2), (.int ia3), (.int ia4), (.int ia5), (.int ia6), o0, o0, o0, o0, o0, o0, o0, o0, o0, o0, o0, o0, o0, o0, o0, o0, o0, o0, o0, o0, o0, o0, o0, o0, o0, o0, o0, o0, o0, o0, o0, o0, o0, o0, o0, o0, o0, o0, o0, o0, o0, o0]) :: e10 :: (ka1, oO cn0 [(fk0, (.ref ka8)), (fk1, (.ref ka9)), (fk2, (.int (3 : Int32))), (fk3, (.int (2147483639 : Int32))), (fk4, (.int (1073741824 : Int32))), (fk5, (.ref ka7)), (fk6, (.ref ka10)), (fk7, .null), (fk8, (.int (0 : Int32))), (fk9, (.int (2 : Int32))), (fk10, (.ref ka2))]) :: (ka3, oA .int [(.int ia4), (.int ia5), (.int ia6)]) :: ds) (fun (v : Option Value) (d : oDs) => (v = some (.int (1 : Int32)) ∧ (e0 :: e1 :: e2 :: e3 :: (ka4, oA .int ((oHd0.set ((oH ia1 ia2 ia3) &&& (15 : Int32)).toNatClampNeg (.int (0 : Int32))).set ((oH ia4 ia5 ia6) &&& (15 : Int32)).toNatClampNeg (.int (1 : Int32)))) :: (ka5, oA .int [o0, (.int (1 : Int32)), (.int (2 : Int32))]) :: (ka2, oO cn3 [(fk18, (.ref ka5)), (fk19, (.ref ka4)), (fk20, (.ref ka6))]) :: e7 :: e8 :: (ka7, oA .int [(.int ia1), (.int ia2), (.int ia3), (.int ia4), (.int ia5), (.int ia6), o0, o0, o0, o0, o0, o0, o0, o0, o0, o0, o0, o0, o0, o0, o0, o0, o0, o0, o0, o0, o0, o0, o0, o0, o0, o0, o0, o0, o0, o0, o0, o0, o0, o0, o0, o0, o0, o0, o0, o0, o0, o0]) :: e10 :: (ka1, oO cn0 [(fk0, (.ref ka8)), (fk1, (.ref ka9)), (fk2, (.int (3 : Int32))), (fk3, (.int (2147483639 : Int32))), (fk4, (.int (1073741824 : Int32))), (fk5, (.ref ka7)), (fk6, (.ref ka10)), (fk7, .null), (fk8, (.int (0 : Int32))), (fk9, (.int (2 : Int32))), (fk10, (.ref ka2))]) :: (ka3, oA .int [(.int ia4), (.int ia5), (.int ia6)]) :: ds) = d)) := by
  refine oMet.of_body (plainFor_of_name pn_9) ?_
  intro p e s m below meth c T B hby hml hown hnm hret
  refine W_entry (ef_rm_a92 m ka1 ka2 ka3) ?_
  refine W_aloadN B (hb hby d29_0) (pc' := 1) rfl rfl rfl ?_
  refine W_aloadN B (hb hby d29_1) (pc' := 2) rfl rfl rfl ?_
  refine W_callS B (y := (⟨"com/example/tanglemark/tanglemark/datalog/Relation", "hash", "([I)I"⟩ : MethodName)) hown (ow hw (i := 226) rfl) (ow hw (i := 227) rfl) (ow hw (i := 3) rfl) (ow hw (i := 228) rfl) (by decide) (rm_a51 l Z a0 hw h0 ka3 _ _ _ _ _ _ _ _ _ _ _ _ ia4 ia5 ia6 _ ) (lenOf pd_17 rfl) (hb hby d29_2) (pc' := 5) rfl (argsL := [(.ref ka3)]) (rest := [(.ref ka2)]) rfl (by rw [hml]; rfl) (W := 1) (oLe rfl) (by decide) (cells' := 0) rfl (slots' := 0) rfl ?_
  intro T v_ d_ q_ B
  obtain ⟨rfl, rfl⟩ := q_
  show oWin p e below Z h0 _ _ (T.setTop (mkF m 5 #[.val (.ref ka1), .val (.ref ka2), .val (.ref ka3), .val (.int (2 : Int32)), .unset] [(.int (oH ia4 ia5 ia6)), (.ref ka2)]))
  refine W_callS B (y := (⟨"com/example/tanglemark/tanglemark/datalog/Relation", "first", "(Lcom/example/tanglemark/tanglemark/datalog/Relation$Chains;I)I"⟩ : MethodName)) hown (ow hw (i := 236) rfl) (ow hw (i := 237) rfl) (ow hw (i := 3) rfl) (ow hw (i := 238) rfl) (by decide) (rm_a90 l Z a0 hw h0 ka2 ia4 ia5 ia6 _ _ _ _ ka4 ia1 ia2 ia3 _ ka5 ka6 _ hy0 hy1 hy2) (lenOf pd_18 rfl) (hb hby d29_5) (pc' := 8) rfl (argsL := [(.ref ka2), (.int (oH ia4 ia5 ia6))]) (rest := []) rfl (by rw [hml]; rfl) (W := 0) (oLe rfl) (by decide) (cells' := 0) rfl (slots' := 0) rfl ?_
  intro T v_ d_ q_ B
  obtain ⟨rfl, rfl⟩ := q_
  show oWin p e below Z h0 _ _ (T.setTop (mkF m 8 #[.val (.ref ka1), .val (.ref ka2), .val (.ref ka3), .val (.int (2 : Int32)), .unset] [(.int (1 : Int32))]))
  refine W_istore B (hb hby d29_8) (pc' := 10) rfl (v := (1 : Int32)) rfl (ls' := #[.val (.ref ka1), .val (.ref ka2), .val (.ref ka3), .val (.int (2 : Int32)), .val (.int (1 : Int32))]) rfl ?_
  refine W_iload B (hb hby d29_10) (pc' := 12) rfl rfl ?_
  refine W_ifN B (hb hby d29_12) (pc' := 15) rfl (by decide) ?_
  refine W_iload B (hb hby d29_15) (pc' := 17) rfl rfl ?_
  refine W_iloadN B (hb hby d29_17) (pc' := 18) rfl rfl ?_
  refine W_icmpN B (hb hby d29_18) (pc' := 21) rfl (by decide) ?_
  refine W_aloadN B (hb hby d29_21) (pc' := 22) rfl rfl rfl ?_
  refine W_iload B (hb hby d29_22) (pc' := 24) rfl rfl ?_
  refine W_aloadN B (hb hby d29_24) (pc' := 25) rfl rfl rfl ?_
  refine W_getfield B hown (host := "") (Or.inl (ow hw (i := 274) rfl)) (Via.of (ow hw (i := 275) rfl)) (hb hby d29_25) (pc' := 28) rfl (j := 6) rfl (q := 0) rfl ?_
  intro T B
  refine W_aloadN B (hb hby d29_28) (pc' := 29) rfl rfl rfl ?_
  refine W_privateS B (y := (⟨"com/example/tanglemark/tanglemark/datalog/Relation", "hasKey", "(I[I[I)Z"⟩ : MethodName)) hown (ow hw (i := 280) rfl) (ow hw (i := 281) rfl) (ow hw (i := 2) rfl) (ow hw (i := 282) rfl) (ow hw (i := 3) rfl) (ow hw (i := 283) rfl) (by decide) (a := ka1) (rm_a91 l Z a0 hw h0 ka1 ka5 ka3 _ _ _ _ _ _ _ _ ka7 ia1 ia2 ia3 ia4 ia5 ia6 _ ka8 ka9 ka10 ka2 _ ) (lenOf pd_24 rfl) (hb hby d29_29) (pc' := 32) rfl (argsL := [(.int (1 : Int32)), (.ref ka5), (.ref ka3)]) (rest := []) rfl (by rw [hml]; rfl) (W := 0) (oLe rfl) (j := 11) rfl (by decide) (cells' := 0) rfl (slots' := 0) rfl ?_
  intro T v_ d_ q_ B
  obtain ⟨rfl, rfl⟩ := q_
  show oWin p e below Z h0 _ _ (T.setTop (mkF m 32 #[.val (.ref ka1), .val (.ref ka2), .val (.ref ka3), .val (.int (2 : Int32)), .val (.int (1 : Int32))] [(.int (1 : Int32))]))
  refine W_ifN B (hb hby d29_32) (pc' := 35) rfl (by decide) ?_
  refine W_iload B (hb hby d29_35) (pc' := 37) rfl rfl ?_
  refine W_retI B hret (hb hby d29_37) (by decide) ?_
  exact ⟨rfl, rfl⟩
theorem ef_rm_a93 (m : MethodId) (x0 : Addr) (x1 : Addr) : entryFrame m #[(.ref x0), (.ref x1)] 2 = mkF m 0 #[.val (.ref x0), .val (.ref x1)] [] := by first | (simp [entryFrame, mkF, argsToLocals, Value.category]; done) | rfl
set_option maxRecDepth 65536 in
set_option maxHeartbeats 40000000 in
theorem rm_a93 (l : Launch) (Z : State) (a0 : Array Value) (hw : ∀ d ∈ tables_1, d.before a0 Z = true) (h0 : Heap) {lo : Nat} (ka1 : Addr) (ka2 : Addr) (e0 : Addr × oD) (e1 : Addr × oD) (e2 : Addr × oD) (e3 : Addr × oD) (ka3 : Addr) (ia1 : Int32) (ia2 : Int32) (ia3 : Int32) (ia4 : Int32) (ia5 : Int32) (ia6 : Int32) (ka4 : Addr) (ka5 : Addr) (ka6 : Addr) (e7 : Addr × oD) (e8 : Addr × oD) (ka7 : Addr) (e10 : Addr × oD) (ka8 : Addr) (ka9 : Addr) (ka10 : Addr) (ds : oDs) (hy0 : ((oHd0.set ((oH ia1 ia2 ia3) &&& (15 : Int32)).toNatClampNeg (.int (0 : Int32))).set ((oH ia4 ia5 ia6) &&& (15 : Int32)).toNatClampNeg (.int (1 : Int32))).length.toInt32 = (16 : Int32)) (hy1 : ((oHd0.set ((oH ia1 ia2 ia3) &&& (15 : Int32)).toNatClampNeg (.int (0 : Int32))).set ((oH ia4 ia5 ia6) &&& (15 : Int32)).toNatClampNeg (.int (1 : Int32)))[((oH ia4 ia5 ia6) &&& (15 : Int32)).toNatClampNeg]? = some (.int (1 : Int32))) (hy2 : ¬ ((oH ia4 ia5 ia6) &&& (15 : Int32)) < (0 : Int32)) :
    oMet l Z h0 lo (⟨"com/example/tanglemark/tanglemark/datalog/Relation", "row", "([I)I"⟩ : MethodName) prog_45_method_14_code 2 (some .int) [] ({ frames := 3, cells := 0, slots := 0, locals := 47 } : Room) #[(.ref ka1), (.ref ka2)] (e0 :: e1 :: e2 :: e3 :: (ka3, oA .int ((oHd0.set ((oH ia1 ia2 ia3) &&& (15 : Int32)).toNatClampNeg (.int (0 : Int32))).set ((oH ia4 ia5 ia6) &&& (15 : Int32)).toNatClampNeg (.int (1 : Int32)))) :: (ka4, oA .int [o0, (.int (1 : Int32)), (.int (2 : Int32))]) :: (ka5, oO cn3 [(fk18, (.ref ka4)), (fk19, (.ref ka3)), (fk20, (.ref ka6))]) :: e7 :: e8 :: (ka7, oA .int [(.int ia1), (.int ia2), (.int ia3), (.int ia4), (.int ia5), (.int ia6), o0, o0, o0, o0, o0, o0, o0, o0, o0, o0, o0, o0, o0, o0, o0, o0, o0, o0, o0, o0, o0, o0, o0, o0, o0, o0, o0, o0, o0, o0, o0, o0, o0, o0, o0, o0, o0, o0, o0, o0, o0, o0]) :: e10 :: (ka1, oO cn0 [(fk0, (.ref ka8)), (fk1, (.ref ka9)), (fk2, (.int (3 : Int32))), (fk3, (.int (2147483639 : Int32))), (fk4, (.int (1073741824 : Int32))), (fk5, (.ref ka7)), (fk6, (.ref ka10)), (fk7, .null), (fk8, (.int (0 : Int32))), (fk9, (.int (2 : Int32))), (fk10, (.ref ka5))]) :: (ka2, oA .int [(.int ia4), (.int ia5), (.int ia6)]) :: ds) (fun (v : Option Value) (d : oDs) => (v = some (.int (1 : Int32)) ∧ (e0 :: e1 :: e2 :: e3 :: (ka3, oA .int ((oHd0.set ((oH ia1 ia2 ia3) &&& (15 : Int32)).toNatClampNeg (.int (0 : Int32))).set ((oH ia4 ia5 ia6) &&& (15 : Int32)).toNatClampNeg (.int (1 : Int32)))) :: (ka4, oA .int [o0, (.int (1 : Int32)), (.int (2 : Int32))]) :: (ka5, oO cn3 [(fk18, (.ref ka4)), (fk19, (.ref ka3)), (fk20, (.ref ka6))]) :: e7 :: e8 :: (ka7, oA .int [(.int ia1), (.int ia2), (.int ia3), (.int ia4), (.int ia5), (.int ia6), o0, o0, o0, o0, o0, o0, o0, o0, o0, o0, o0, o0, o0, o0, o0, o0, o0, o0, o0, o0, o0, o0, o0, o0, o0, o0, o0, o0, o0, o0, o0, o0, o0, o0, o0, o0, o0, o0, o0, o0, o0, o0]) :: e10 :: (ka1, oO cn0 [(fk0, (.ref ka8)), (fk1, (.ref ka9)), (fk2, (.int (3 : Int32))), (fk3, (.int (2147483639 : Int32))), (fk4, (.int (1073741824 : Int32))), (fk5, (.ref ka7)), (fk6, (.ref ka10)), (fk7, .null), (fk8, (.int (0 : Int32))), (fk9, (.int (2 : Int32))), (fk10, (.ref ka5))]) :: (ka2, oA .int [(.int ia4), (.int ia5), (.int ia6)]) :: ds) = d)) := by
  refine oMet.of_body (plainFor_of_name pn_9) ?_
  intro p e s m below meth c T B hby hml hown hnm hret
  refine W_entry (ef_rm_a93 m ka1 ka2) ?_
  refine W_aloadN B (hb hby d27_0) (pc' := 1) rfl rfl rfl ?_
  refine W_privateS B (y := (⟨"com/example/tanglemark/tanglemark/datalog/Relation", "requireOpen", "()V"⟩ : MethodName)) hown (ow hw (i := 217) rfl) (ow hw (i := 218) rfl) (ow hw (i := 2) rfl) (ow hw (i := 219) rfl) (ow hw (i := 3) rfl) (ow hw (i := 220) rfl) (by decide) (a := ka1) (rm_a81 l Z a0 hw h0 ka1 _ _ _ _ _ _ _ _ _ _ _ ka8 ka9 ka7 ka10 ka5 _ ) (lenOf pd_0 rfl) (hb hby d27_1) (pc' := 4) rfl (argsL := []) (rest := []) rfl (by rw [hml]; rfl) (W := 0) (oLe rfl) (j := 11) rfl (by decide) (cells' := 0) rfl (slots' := 0) rfl ?_
  intro T v_ d_ q_ B
  obtain ⟨rfl, rfl⟩ := q_
  show oWin p e below Z h0 _ _ (T.setTop (mkF m 4 #[.val (.ref ka1), .val (.ref ka2)] []))
  refine W_aloadN B (hb hby d27_4) (pc' := 5) rfl rfl rfl ?_
  refine W_aloadN B (hb hby d27_5) (pc' := 6) rfl rfl rfl ?_
  refine W_getfield B hown (host := "") (Or.inl (ow hw (i := 200) rfl)) Via.refl (hb hby d27_6) (pc' := 9) rfl (j := 11) rfl (q := 10) rfl ?_
  intro T B
  refine W_aloadN B (hb hby d27_9) (pc' := 10) rfl rfl rfl ?_
  refine W_aloadN B (hb hby d27_10) (pc' := 11) rfl rfl rfl ?_
  refine W_getfield B hown (host := "") (Or.inl (ow hw (i := 198) rfl)) Via.refl (hb hby d27_11) (pc' := 14) rfl (j := 11) rfl (q := 9) rfl ?_
  intro T B
  refine W_virtual B (y := (⟨"com/example/tanglemark/tanglemark/datalog/Relation", "newest", "(Lcom/example/tanglemark/tanglemark/datalog/Relation$Chains;[II)I"⟩ : MethodName)) (z := (⟨"com/example/tanglemark/tanglemark/datalog/Relation", "newest", "(Lcom/example/tanglemark/tanglemark/datalog/Relation$Chains;[II)I"⟩ : MethodName)) hown (ow hw (i := 221) rfl) (ow hw (i := 222) rfl) (oNotFace B (ow hw (i := 224) rfl) rfl) (ow hw (i := 224) rfl) (ow hw (i := 223) rfl) (ow hw (i := 3) rfl) (ow hw (i := 225) rfl) (by decide) (a := ka1) (rm_a92 l Z a0 hw h0 ka1 ka5 ka2 _ _ _ _ ka3 ia1 ia2 ia3 ia4 ia5 ia6 ka4 ka6 _ _ ka7 _ ka8 ka9 ka10 _ hy0 hy1 hy2) (lenOf pd_19 rfl) (hb hby d27_14) (pc' := 17) rfl (argsL := [(.ref ka5), (.ref ka2), (.int (2 : Int32))]) (rest := []) rfl (by rw [hml]; rfl) (W := 0) (oLe rfl) (j := 11) rfl (by decide) (cells' := 0) rfl (slots' := 0) rfl ?_
  intro T v_ d_ q_ B
  obtain ⟨rfl, rfl⟩ := q_
  show oWin p e below Z h0 _ _ (T.setTop (mkF m 17 #[.val (.ref ka1), .val (.ref ka2)] [(.int (1 : Int32))]))
  refine W_retI B hret (hb hby d27_17) (by decide) ?_
  exact ⟨rfl, rfl⟩
theorem ef_rm_a94 (m : MethodId) (x0 : Addr) (x1 : Addr) : entryFrame m #[(.ref x0), (.ref x1)] 2 = mkF m 0 #[.val (.ref x0), .val (.ref x1)] [] := by first | (simp [entryFrame, mkF, argsToLocals, Value.category]; done) | rfl
set_option maxRecDepth 65536 in
set_option maxHeartbeats 40000000 in
theorem rm_a94 (l : Launch) (Z : State) (a0 : Array Value) (hw : ∀ d ∈ tables_1, d.before a0 Z = true) (h0 : Heap) {lo : Nat} (ka1 : Addr) (ka2 : Addr) (e0 : Addr × oD) (e1 : Addr × oD) (e2 : Addr × oD) (e3 : Addr × oD) (ka3 : Addr) (ia1 : Int32) (ia2 : Int32) (ia3 : Int32) (ia4 : Int32) (ia5 : Int32) (ia6 : Int32) (ka4 : Addr) (ka5 : Addr) (ka6 : Addr) (e7 : Addr × oD) (e8 : Addr × oD) (ka7 : Addr) (e10 : Addr × oD) (ka8 : Addr) (ka9 : Addr) (ka10 : Addr) (ds : oDs) (hy0 : ((oHd0.set ((oH ia1 ia2 ia3) &&& (15 : Int32)).toNatClampNeg (.int (0 : Int32))).set ((oH ia4 ia5 ia6) &&& (15 : Int32)).toNatClampNeg (.int (1 : Int32))).length.toInt32 = (16 : Int32)) (hy1 : ((oHd0.set ((oH ia1 ia2 ia3) &&& (15 : Int32)).toNatClampNeg (.int (0 : Int32))).set ((oH ia4 ia5 ia6) &&& (15 : Int32)).toNatClampNeg (.int (1 : Int32)))[((oH ia4 ia5 ia6) &&& (15 : Int32)).toNatClampNeg]? = some (.int (1 : Int32))) (hy2 : ¬ ((oH ia4 ia5 ia6) &&& (15 : Int32)) < (0 : Int32)) :
    oMet l Z h0 lo (⟨"com/example/tanglemark/tanglemark/datalog/Relation", "contains", "([I)Z"⟩ : MethodName) prog_45_method_13_code 2 (some .boolean) [] ({ frames := 4, cells := 0, slots := 0, locals := 60 } : Room) #[(.ref ka1), (.ref ka2)] (e0 :: e1 :: e2 :: e3 :: (ka3, oA .int ((oHd0.set ((oH ia1 ia2 ia3) &&& (15 : Int32)).toNatClampNeg (.int (0 : Int32))).set ((oH ia4 ia5 ia6) &&& (15 : Int32)).toNatClampNeg (.int (1 : Int32)))) :: (ka4, oA .int [o0, (.int (1 : Int32)), (.int (2 : Int32))]) :: (ka5, oO cn3 [(fk18, (.ref ka4)), (fk19, (.ref ka3)), (fk20, (.ref ka6))]) :: e7 :: e8 :: (ka7, oA .int [(.int ia1), (.int ia2), (.int ia3), (.int ia4), (.int ia5), (.int ia6), o0, o0, o0, o0, o0, o0, o0, o0, o0, o0, o0, o0, o0, o0, o0, o0, o0, o0, o0, o0, o0, o0, o0, o0, o0, o0, o0, o0, o0, o0, o0, o0, o0, o0, o0, o0, o0, o0, o0, o0, o0, o0]) :: e10 :: (ka1, oO cn0 [(fk0, (.ref ka8)), (fk1, (.ref ka9)), (fk2, (.int (3 : Int32))), (fk3, (.int (2147483639 : Int32))), (fk4, (.int (1073741824 : Int32))), (fk5, (.ref ka7)), (fk6, (.ref ka10)), (fk7, .null), (fk8, (.int (0 : Int32))), (fk9, (.int (2 : Int32))), (fk10, (.ref ka5))]) :: (ka2, oA .int [(.int ia4), (.int ia5), (.int ia6)]) :: ds) (fun (v : Option Value) (d : oDs) => (v = some (.int (1 : Int32)) ∧ (e0 :: e1 :: e2 :: e3 :: (ka3, oA .int ((oHd0.set ((oH ia1 ia2 ia3) &&& (15 : Int32)).toNatClampNeg (.int (0 : Int32))).set ((oH ia4 ia5 ia6) &&& (15 : Int32)).toNatClampNeg (.int (1 : Int32)))) :: (ka4, oA .int [o0, (.int (1 : Int32)), (.int (2 : Int32))]) :: (ka5, oO cn3 [(fk18, (.ref ka4)), (fk19, (.ref ka3)), (fk20, (.ref ka6))]) :: e7 :: e8 :: (ka7, oA .int [(.int ia1), (.int ia2), (.int ia3), (.int ia4), (.int ia5), (.int ia6), o0, o0, o0, o0, o0, o0, o0, o0, o0, o0, o0, o0, o0, o0, o0, o0, o0, o0, o0, o0, o0, o0, o0, o0, o0, o0, o0, o0, o0, o0, o0, o0, o0, o0, o0, o0, o0, o0, o0, o0, o0, o0]) :: e10 :: (ka1, oO cn0 [(fk0, (.ref ka8)), (fk1, (.ref ka9)), (fk2, (.int (3 : Int32))), (fk3, (.int (2147483639 : Int32))), (fk4, (.int (1073741824 : Int32))), (fk5, (.ref ka7)), (fk6, (.ref ka10)), (fk7, .null), (fk8, (.int (0 : Int32))), (fk9, (.int (2 : Int32))), (fk10, (.ref ka5))]) :: (ka2, oA .int [(.int ia4), (.int ia5), (.int ia6)]) :: ds) = d)) := by
  refine oMet.of_body (plainFor_of_name pn_9) ?_
  intro p e s m below meth c T B hby hml hown hnm hret
  refine W_entry (ef_rm_a94 m ka1 ka2) ?_
  refine W_aloadN B (hb hby d26_0) (pc' := 1) rfl rfl rfl ?_
  refine W_aloadN B (hb hby d26_1) (pc' := 2) rfl rfl rfl ?_
  refine W_virtual B (y := (⟨"com/example/tanglemark/tanglemark/datalog/Relation", "row", "([I)I"⟩ : MethodName)) (z := (⟨"com/example/tanglemark/tanglemark/datalog/Relation", "row", "([I)I"⟩ : MethodName)) hown (ow hw (i := 212) rfl) (ow hw (i := 213) rfl) (oNotFace B (ow hw (i := 215) rfl) rfl) (ow hw (i := 215) rfl) (ow hw (i := 214) rfl) (ow hw (i := 3) rfl) (ow hw (i := 216) rfl) (by decide) (a := ka1) (rm_a93 l Z a0 hw h0 ka1 ka2 _ _ _ _ ka3 ia1 ia2 ia3 ia4 ia5 ia6 ka4 ka5 ka6 _ _ ka7 _ ka8 ka9 ka10 _ hy0 hy1 hy2) (lenOf pd_17 rfl) (hb hby d26_2) (pc' := 5) rfl (argsL := [(.ref ka2)]) (rest := []) rfl (by rw [hml]; rfl) (W := 0) (oLe rfl) (j := 11) rfl (by decide) (cells' := 0) rfl (slots' := 0) rfl ?_
  intro T v_ d_ q_ B
  obtain ⟨rfl, rfl⟩ := q_
  show oWin p e below Z h0 _ _ (T.setTop (mkF m 5 #[.val (.ref ka1), .val (.ref ka2)] [(.int (1 : Int32))]))
  refine W_ifN B (hb hby d26_5) (pc' := 8) rfl (by decide) ?_
  refine W_iconst B (hb hby d26_8) (pc' := 9) rfl (z := (1 : Int32)) (by decide) ?_
  refine W_goto B (hb hby d26_9) (by decide) (pc' := 13) (by decide) ?_
  refine W_retN B hret (by simp) (hb hby d26_13) (by decide) ?_
  exact ⟨rfl, rfl⟩
theorem ef_rm_a95 (m : MethodId) (x0 : Addr) (x1 : Addr) : entryFrame m #[(.ref x0), (.ref x1)] 2 = mkF m 0 #[.val (.ref x0), .val (.ref x1)] [] := by first | (simp [entryFrame, mkF, argsToLocals, Value.category]; done) | rfl
set_option maxRecDepth 65536 in
set_option maxHeartbeats 40000000 in
theorem rm_a95 (l : Launch) (Z : State) (a0 : Array Value) (hw : ∀ d ∈ tables_1, d.before a0 Z = true) (h0 : Heap) {lo : Nat} (ka1 : Addr) (ka2 : Addr) (e0 : Addr × oD) (e1 : Addr × oD) (e2 : Addr × oD) (e3 : Addr × oD) (ka3 : Addr) (ia1 : Int32) (ia2 : Int32) (ia3 : Int32) (ia4 : Int32) (ia5 : Int32) (ia6 : Int32) (ka4 : Addr) (ka5 : Addr) (ka6 : Addr) (e7 : Addr × oD) (e8 : Addr × oD) (ka7 : Addr) (e10 : Addr × oD) (ka8 : Addr) (ka9 : Addr) (ka10 : Addr) (ds : oDs) (hy0 : ((oHd0.set ((oH ia1 ia2 ia3) &&& (15 : Int32)).toNatClampNeg (.int (0 : Int32))).set ((oH ia4 ia5 ia6) &&& (15 : Int32)).toNatClampNeg (.int (1 : Int32))).length.toInt32 = (16 : Int32)) (hy1 : ((oHd0.set ((oH ia1 ia2 ia3) &&& (15 : Int32)).toNatClampNeg (.int (0 : Int32))).set ((oH ia4 ia5 ia6) &&& (15 : Int32)).toNatClampNeg (.int (1 : Int32)))[((oH ia4 ia5 ia6) &&& (15 : Int32)).toNatClampNeg]? = some (.int (1 : Int32))) (hy2 : ¬ ((oH ia4 ia5 ia6) &&& (15 : Int32)) < (0 : Int32)) :
    oMet l Z h0 lo (⟨"com/example/tanglemark/tanglemark/datalog/Relation", "add", "([I)Z"⟩ : MethodName) prog_45_method_8_code 2 (some .boolean) [] ({ frames := 5, cells := 0, slots := 0, locals := 73 } : Room) #[(.ref ka1), (.ref ka2)] (e0 :: e1 :: e2 :: e3 :: (ka3, oA .int ((oHd0.set ((oH ia1 ia2 ia3) &&& (15 : Int32)).toNatClampNeg (.int (0 : Int32))).set ((oH ia4 ia5 ia6) &&& (15 : Int32)).toNatClampNeg (.int (1 : Int32)))) :: (ka4, oA .int [o0, (.int (1 : Int32)), (.int (2 : Int32))]) :: (ka5, oO cn3 [(fk18, (.ref ka4)), (fk19, (.ref ka3)), (fk20, (.ref ka6))]) :: e7 :: e8 :: (ka7, oA .int [(.int ia1), (.int ia2), (.int ia3), (.int ia4), (.int ia5), (.int ia6), o0, o0, o0, o0, o0, o0, o0, o0, o0, o0, o0, o0, o0, o0, o0, o0, o0, o0, o0, o0, o0, o0, o0, o0, o0, o0, o0, o0, o0, o0, o0, o0, o0, o0, o0, o0, o0, o0, o0, o0, o0, o0]) :: e10 :: (ka1, oO cn0 [(fk0, (.ref ka8)), (fk1, (.ref ka9)), (fk2, (.int (3 : Int32))), (fk3, (.int (2147483639 : Int32))), (fk4, (.int (1073741824 : Int32))), (fk5, (.ref ka7)), (fk6, (.ref ka10)), (fk7, .null), (fk8, (.int (0 : Int32))), (fk9, (.int (2 : Int32))), (fk10, (.ref ka5))]) :: (ka2, oA .int [(.int ia4), (.int ia5), (.int ia6)]) :: ds) (fun (v : Option Value) (d : oDs) => (v = some (.int (0 : Int32)) ∧ (e0 :: e1 :: e2 :: e3 :: (ka3, oA .int ((oHd0.set ((oH ia1 ia2 ia3) &&& (15 : Int32)).toNatClampNeg (.int (0 : Int32))).set ((oH ia4 ia5 ia6) &&& (15 : Int32)).toNatClampNeg (.int (1 : Int32)))) :: (ka4, oA .int [o0, (.int (1 : Int32)), (.int (2 : Int32))]) :: (ka5, oO cn3 [(fk18, (.ref ka4)), (fk19, (.ref ka3)), (fk20, (.ref ka6))]) :: e7 :: e8 :: (ka7, oA .int [(.int ia1), (.int ia2), (.int ia3), (.int ia4), (.int ia5), (.int ia6), o0, o0, o0, o0, o0, o0, o0, o0, o0, o0, o0, o0, o0, o0, o0, o0, o0, o0, o0, o0, o0, o0, o0, o0, o0, o0, o0, o0, o0, o0, o0, o0, o0, o0, o0, o0, o0, o0, o0, o0, o0, o0]) :: e10 :: (ka1, oO cn0 [(fk0, (.ref ka8)), (fk1, (.ref ka9)), (fk2, (.int (3 : Int32))), (fk3, (.int (2147483639 : Int32))), (fk4, (.int (1073741824 : Int32))), (fk5, (.ref ka7)), (fk6, (.ref ka10)), (fk7, .null), (fk8, (.int (0 : Int32))), (fk9, (.int (2 : Int32))), (fk10, (.ref ka5))]) :: (ka2, oA .int [(.int ia4), (.int ia5), (.int ia6)]) :: ds) = d)) := by
  refine oMet.of_body (plainFor_of_name pn_9) ?_
  intro p e s m below meth c T B hby hml hown hnm hret
  refine W_entry (ef_rm_a95 m ka1 ka2) ?_
  refine W_aloadN B (hb hby d25_0) (pc' := 1) rfl rfl rfl ?_
  refine W_aloadN B (hb hby d25_1) (pc' := 2) rfl rfl rfl ?_
  refine W_virtual B (y := (⟨"com/example/tanglemark/tanglemark/datalog/Relation", "contains", "([I)Z"⟩ : MethodName)) (z := (⟨"com/example/tanglemark/tanglemark/datalog/Relation", "contains", "([I)Z"⟩ : MethodName)) hown (ow hw (i := 207) rfl) (ow hw (i := 208) rfl) (oNotFace B (ow hw (i := 210) rfl) rfl) (ow hw (i := 210) rfl) (ow hw (i := 209) rfl) (ow hw (i := 3) rfl) (ow hw (i := 211) rfl) (by decide) (a := ka1) (rm_a94 l Z a0 hw h0 ka1 ka2 _ _ _ _ ka3 ia1 ia2 ia3 ia4 ia5 ia6 ka4 ka5 ka6 _ _ ka7 _ ka8 ka9 ka10 _ hy0 hy1 hy2) (lenOf pd_20 rfl) (hb hby d25_2) (pc' := 5) rfl (argsL := [(.ref ka2)]) (rest := []) rfl (by rw [hml]; rfl) (W := 0) (oLe rfl) (j := 11) rfl (by decide) (cells' := 0) rfl (slots' := 0) rfl ?_
  intro T v_ d_ q_ B
  obtain ⟨rfl, rfl⟩ := q_
  show oWin p e below Z h0 _ _ (T.setTop (mkF m 5 #[.val (.ref ka1), .val (.ref ka2)] [(.int (1 : Int32))]))
  refine W_ifN B (hb hby d25_5) (pc' := 8) rfl (by decide) ?_
  refine W_iconst B (hb hby d25_8) (pc' := 9) rfl (z := (0 : Int32)) (by decide) ?_
  refine W_retN B hret (by simp) (hb hby d25_9) (by decide) ?_
  exact ⟨rfl, rfl⟩
theorem ef_rm_a96 (m : MethodId) (x0 : Addr) : entryFrame m #[(.ref x0)] 1 = mkF m 0 #[.val (.ref x0)] [] := by first | (simp [entryFrame, mkF, argsToLocals, Value.category]; done) | rfl
set_option maxRecDepth 65536 in
set_option maxHeartbeats 40000000 in
theorem rm_a96 (l : Launch) (Z : State) (a0 : Array Value) (hw : ∀ d ∈ tables_1, d.before a0 Z = true) (h0 : Heap) {lo : Nat} (ka1 : Addr) (e0 : Addr × oD) (e1 : Addr × oD) (e2 : Addr × oD) (e3 : Addr × oD) (e4 : Addr × oD) (e5 : Addr × oD) (e6 : Addr × oD) (e7 : Addr × oD) (e8 : Addr × oD) (e9 : Addr × oD) (e10 : Addr × oD) (ka2 : Addr) (ka3 : Addr) (ka4 : Addr) (ka5 : Addr) (ka6 : Addr) (ds : oDs) :
    oMet l Z h0 lo (⟨"com/example/tanglemark/tanglemark/datalog/Relation", "size", "()I"⟩ : MethodName) prog_45_method_5_code 1 (some .int) [] ({ frames := 0, cells := 0, slots := 0, locals := 0 } : Room) #[(.ref ka1)] (e0 :: e1 :: e2 :: e3 :: e4 :: e5 :: e6 :: e7 :: e8 :: e9 :: e10 :: (ka1, oO cn0 [(fk0, (.ref ka2)), (fk1, (.ref ka3)), (fk2, (.int (3 : Int32))), (fk3, (.int (2147483639 : Int32))), (fk4, (.int (1073741824 : Int32))), (fk5, (.ref ka4)), (fk6, (.ref ka5)), (fk7, .null), (fk8, (.int (0 : Int32))), (fk9, (.int (2 : Int32))), (fk10, (.ref ka6))]) :: ds) (fun (v : Option Value) (d : oDs) => (v = some (.int (2 : Int32)) ∧ (e0 :: e1 :: e2 :: e3 :: e4 :: e5 :: e6 :: e7 :: e8 :: e9 :: e10 :: (ka1, oO cn0 [(fk0, (.ref ka2)), (fk1, (.ref ka3)), (fk2, (.int (3 : Int32))), (fk3, (.int (2147483639 : Int32))), (fk4, (.int (1073741824 : Int32))), (fk5, (.ref ka4)), (fk6, (.ref ka5)), (fk7, .null), (fk8, (.int (0 : Int32))), (fk9, (.int (2 : Int32))), (fk10, (.ref ka6))]) :: ds) = d)) := by
  refine oMet.of_body (plainFor_of_name pn_9) ?_
  intro p e s m below meth c T B hby hml hown hnm hret
  refine W_entry (ef_rm_a96 m ka1) ?_
  refine W_aloadN B (hb hby d41_0) (pc' := 1) rfl rfl rfl ?_
  refine W_getfield B hown (host := "") (Or.inl (ow hw (i := 198) rfl)) Via.refl (hb hby d41_1) (pc' := 4) rfl (j := 11) rfl (q := 9) rfl ?_
  intro T B
  refine W_retI B hret (hb hby d41_4) (by decide) ?_
  exact ⟨rfl, rfl⟩
theorem ef_rm_a97 (m : MethodId) (x0 : Addr) (x1 : Int32) : entryFrame m #[(.ref x0), (.int x1)] 2 = mkF m 0 #[.val (.ref x0), .val (.int x1)] [] := by first | (simp [entryFrame, mkF, argsToLocals, Value.category]; done) | rfl
set_option maxRecDepth 65536 in
set_option maxHeartbeats 40000000 in
theorem rm_a97 (l : Launch) (Z : State) (a0 : Array Value) (hw : ∀ d ∈ tables_1, d.before a0 Z = true) (h0 : Heap) {lo : Nat} (ka1 : Addr) (ia1 : Int32) (ia2 : Int32) (ia3 : Int32) (e0 : Addr × oD) (e1 : Addr × oD) (e2 : Addr × oD) (ka2 : Addr) (ia4 : Int32) (ia5 : Int32) (ia6 : Int32) (e4 : Addr × oD) (ka3 : Addr) (ka4 : Addr) (ds : oDs) (hy0 : (oHd0.set ((oH ia4 ia5 ia6) &&& (15 : Int32)).toNatClampNeg (.int (0 : Int32))).length.toInt32 = (16 : Int32)) (hy1 : (oHd0.set ((oH ia4 ia5 ia6) &&& (15 : Int32)).toNatClampNeg (.int (0 : Int32)))[((oH ia1 ia2 ia3) &&& (15 : Int32)).toNatClampNeg]? = some (.int (-1 : Int32))) (hy2 : ¬ ((oH ia1 ia2 ia3) &&& (15 : Int32)) < (0 : Int32)) :
    oMet l Z h0 lo (⟨"com/example/tanglemark/tanglemark/datalog/Relation", "first", "(Lcom/example/tanglemark/tanglemark/datalog/Relation$Chains;I)I"⟩ : MethodName) prog_45_method_28_code 2 (some .int) [] ({ frames := 0, cells := 0, slots := 0, locals := 0 } : Room) #[(.ref ka1), (.int (oH ia1 ia2 ia3))] (e0 :: e1 :: e2 :: (ka2, oA .int (oHd0.set ((oH ia4 ia5 ia6) &&& (15 : Int32)).toNatClampNeg (.int (0 : Int32)))) :: e4 :: (ka1, oO cn3 [(fk18, (.ref ka3)), (fk19, (.ref ka2)), (fk20, (.ref ka4))]) :: ds) (fun (v : Option Value) (d : oDs) => (v = some (.int (-1 : Int32)) ∧ (e0 :: e1 :: e2 :: (ka2, oA .int (oHd0.set ((oH ia4 ia5 ia6) &&& (15 : Int32)).toNatClampNeg (.int (0 : Int32)))) :: e4 :: (ka1, oO cn3 [(fk18, (.ref ka3)), (fk19, (.ref ka2)), (fk20, (.ref ka4))]) :: ds) = d)) := by
  refine oMet.of_body (plainFor_of_name pn_9) ?_
  intro p e s m below meth c T B hby hml hown hnm hret
  refine W_entry (ef_rm_a97 m ka1 (oH ia1 ia2 ia3)) ?_
  refine W_aloadN B (hb hby d33_0) (pc' := 1) rfl rfl rfl ?_
  refine W_getfieldR B hown (ow hw (i := 239) rfl) (hb hby d33_1) (pc' := 4) rfl (j := 5) rfl (q := 1) rfl ?_
  refine W_iloadN B (hb hby d33_4) (pc' := 5) rfl rfl ?_
  refine W_aloadN B (hb hby d33_5) (pc' := 6) rfl rfl rfl ?_
  refine W_getfieldR B hown (ow hw (i := 239) rfl) (hb hby d33_6) (pc' := 9) rfl (j := 5) rfl (q := 1) rfl ?_
  refine W_arraylength B (hb hby d33_9) (pc' := 10) rfl (j := 3) rfl (z := (16 : Int32)) hy0 ?_
  refine W_iconst B (hb hby d33_10) (pc' := 11) rfl (z := (1 : Int32)) (by decide) ?_
  refine W_isub B (hb hby d33_11) (pc' := 12) rfl (z := (15 : Int32)) (by decide) ?_
  refine W_iand B (hb hby d33_12) (pc' := 13) rfl (z := ((oH ia1 ia2 ia3) &&& (15 : Int32))) rfl ?_
  refine W_iaload B (hb hby d33_13) (pc' := 14) rfl (i := 3) rfl hy2 (v := (.int (-1 : Int32))) hy1 ?_
  refine W_retI B hret (hb hby d33_14) (by decide) ?_
  exact ⟨rfl, rfl⟩
theorem ef_rm_a98 (m : MethodId) (x0 : Addr) (x1 : Addr) (x2 : Addr) : entryFrame m #[(.ref x0), (.ref x1), (.ref x2), (.int (1 : Int32))] 5 = mkF m 0 #[.val (.ref x0), .val (.ref x1), .val (.ref x2), .val (.int (1 : Int32)), .unset] [] := by first | (simp [entryFrame, mkF, argsToLocals, Value.category]; done) | rfl
set_option maxRecDepth 65536 in
set_option maxHeartbeats 40000000 in
theorem rm_a98 (l : Launch) (Z : State) (a0 : Array Value) (hw : ∀ d ∈ tables_1, d.before a0 Z = true) (h0 : Heap) {lo : Nat} (ka1 : Addr) (ka2 : Addr) (ka3 : Addr) (e0 : Addr × oD) (e1 : Addr × oD) (e2 : Addr × oD) (ka4 : Addr) (ia1 : Int32) (ia2 : Int32) (ia3 : Int32) (e4 : Addr × oD) (ka5 : Addr) (ka6 : Addr) (e6 : Addr × oD) (e7 : Addr × oD) (e8 : Addr × oD) (e9 : Addr × oD) (e10 : Addr × oD) (e11 : Addr × oD) (e12 : Addr × oD) (ia4 : Int32) (ia5 : Int32) (ia6 : Int32) (ds : oDs) (hy0 : (oHd0.set ((oH ia1 ia2 ia3) &&& (15 : Int32)).toNatClampNeg (.int (0 : Int32))).length.toInt32 = (16 : Int32)) (hy1 : (oHd0.set ((oH ia1 ia2 ia3) &&& (15 : Int32)).toNatClampNeg (.int (0 : Int32)))[((oH ia4 ia5 ia6) &&& (15 : Int32)).toNatClampNeg]? = some (.int (-1 : Int32))) (hy2 : ¬ ((oH ia4 ia5 ia6) &&& (15 : Int32)) < (0 : Int32)) :
    oMet l Z h0 lo (⟨"com/example/tanglemark/tanglemark/datalog/Relation", "newest", "(Lcom/example/tanglemark/tanglemark/datalog/Relation$Chains;[II)I"⟩ : MethodName) prog_45_method_15_code 5 (some .int) [] ({ frames := 2, cells := 0, slots := 0, locals := 31 } : Room) #[(.ref ka1), (.ref ka2), (.ref ka3), (.int (1 : Int32))] (e0 :: e1 :: e2 :: (ka4, oA .int (oHd0.set ((oH ia1 ia2 ia3) &&& (15 : Int32)).toNatClampNeg (.int (0 : Int32)))) :: e4 :: (ka2, oO cn3 [(fk18, (.ref ka5)), (fk19, (.ref ka4)), (fk20, (.ref ka6))]) :: e6 :: e7 :: e8 :: e9 :: e10 :: e11 :: e12 :: (ka3, oA .int [(.int ia4), (.int ia5), (.int ia6)]) :: ds) (fun (v : Option Value) (d : oDs) => (v = some (.int (-1 : Int32)) ∧ (e0 :: e1 :: e2 :: (ka4, oA .int (oHd0.set ((oH ia1 ia2 ia3) &&& (15 : Int32)).toNatClampNeg (.int (0 : Int32)))) :: e4 :: (ka2, oO cn3 [(fk18, (.ref ka5)), (fk19, (.ref ka4)), (fk20, (.ref ka6))]) :: e6 :: e7 :: e8 :: e9 :: e10 :: e11 :: e12 :: (ka3, oA .int [(.int ia4), (.int ia5), (.int ia6)]) :: ds) = d)) := by
  refine oMet.of_body (plainFor_of_name pn_9) ?_
  intro p e s m below meth c T B hby hml hown hnm hret
  refine W_entry (ef_rm_a98 m ka1 ka2 ka3) ?_
  refine W_aloadN B (hb hby d29_0) (pc' := 1) rfl rfl rfl ?_
  refine W_aloadN B (hb hby d29_1) (pc' := 2) rfl rfl rfl ?_
  refine W_callS B (y := (⟨"com/example/tanglemark/tanglemark/datalog/Relation", "hash", "([I)I"⟩ : MethodName)) hown (ow hw (i := 226) rfl) (ow hw (i := 227) rfl) (ow hw (i := 3) rfl) (ow hw (i := 228) rfl) (by decide) (rm_a28 l Z a0 hw h0 ka3 _ _ _ _ _ _ _ _ _ _ _ _ _ ia4 ia5 ia6 _ ) (lenOf pd_17 rfl) (hb hby d29_2) (pc' := 5) rfl (argsL := [(.ref ka3)]) (rest := [(.ref ka2)]) rfl (by rw [hml]; rfl) (W := 1) (oLe rfl) (by decide) (cells' := 0) rfl (slots' := 0) rfl ?_
  intro T v_ d_ q_ B
  obtain ⟨rfl, rfl⟩ := q_
  show oWin p e below Z h0 _ _ (T.setTop (mkF m 5 #[.val (.ref ka1), .val (.ref ka2), .val (.ref ka3), .val (.int (1 : Int32)), .unset] [(.int (oH ia4 ia5 ia6)), (.ref ka2)]))
  refine W_callS B (y := (⟨"com/example/tanglemark/tanglemark/datalog/Relation", "first", "(Lcom/example/tanglemark/tanglemark/datalog/Relation$Chains;I)I"⟩ : MethodName)) hown (ow hw (i := 236) rfl) (ow hw (i := 237) rfl) (ow hw (i := 3) rfl) (ow hw (i := 238) rfl) (by decide) (rm_a97 l Z a0 hw h0 ka2 ia4 ia5 ia6 _ _ _ ka4 ia1 ia2 ia3 _ ka5 ka6 _ hy0 hy1 hy2) (lenOf pd_18 rfl) (hb hby d29_5) (pc' := 8) rfl (argsL := [(.ref ka2), (.int (oH ia4 ia5 ia6))]) (rest := []) rfl (by rw [hml]; rfl) (W := 0) (oLe rfl) (by decide) (cells' := 0) rfl (slots' := 0) rfl ?_
  intro T v_ d_ q_ B
  obtain ⟨rfl, rfl⟩ := q_
  show oWin p e below Z h0 _ _ (T.setTop (mkF m 8 #[.val (.ref ka1), .val (.ref ka2), .val (.ref ka3), .val (.int (1 : Int32)), .unset] [(.int (-1 : Int32))]))
  refine W_istore B (hb hby d29_8) (pc' := 10) rfl (v := (-1 : Int32)) rfl (ls' := #[.val (.ref ka1), .val (.ref ka2), .val (.ref ka3), .val (.int (1 : Int32)), .val (.int (-1 : Int32))]) rfl ?_
  refine W_iload B (hb hby d29_10) (pc' := 12) rfl rfl ?_
  refine W_ifY B (hb hby d29_12) (by decide) (pc' := 49) (by decide) (by decide) ?_
  refine W_iconst B (hb hby d29_49) (pc' := 50) rfl (z := (-1 : Int32)) (by decide) ?_
  refine W_retI B hret (hb hby d29_50) (by decide) ?_
  exact ⟨rfl, rfl⟩
theorem ef_rm_a99 (m : MethodId) (x0 : Addr) (x1 : Addr) : entryFrame m #[(.ref x0), (.ref x1)] 2 = mkF m 0 #[.val (.ref x0), .val (.ref x1)] [] := by first | (simp [entryFrame, mkF, argsToLocals, Value.category]; done) | rfl
set_option maxRecDepth 65536 in
set_option maxHeartbeats 40000000 in
theorem rm_a99 (l : Launch) (Z : State) (a0 : Array Value) (hw : ∀ d ∈ tables_1, d.before a0 Z = true) (h0 : Heap) {lo : Nat} (ka1 : Addr) (ka2 : Addr) (e0 : Addr × oD) (e1 : Addr × oD) (e2 : Addr × oD) (ka3 : Addr) (ia1 : Int32) (ia2 : Int32) (ia3 : Int32) (e4 : Addr × oD) (ka4 : Addr) (ka5 : Addr) (ka6 : Addr) (e6 : Addr × oD) (e7 : Addr × oD) (e8 : Addr × oD) (e9 : Addr × oD) (ka7 : Addr) (ka8 : Addr) (ka9 : Addr) (ka10 : Addr) (e11 : Addr × oD) (e12 : Addr × oD) (ia4 : Int32) (ia5 : Int32) (ia6 : Int32) (ds : oDs) (hy0 : (oHd0.set ((oH ia1 ia2 ia3) &&& (15 : Int32)).toNatClampNeg (.int (0 : Int32))).length.toInt32 = (16 : Int32)) (hy1 : (oHd0.set ((oH ia1 ia2 ia3) &&& (15 : Int32)).toNatClampNeg (.int (0 : Int32)))[((oH ia4 ia5 ia6) &&& (15 : Int32)).toNatClampNeg]? = some (.int (-1 : Int32))) (hy2 : ¬ ((oH ia4 ia5 ia6) &&& (15 : Int32)) < (0 : Int32)) :
    oMet l Z h0 lo (⟨"com/example/tanglemark/tanglemark/datalog/Relation", "row", "([I)I"⟩ : MethodName) prog_45_method_14_code 2 (some .int) [] ({ frames := 3, cells := 0, slots := 0, locals := 47 } : Room) #[(.ref ka1), (.ref ka2)] (e0 :: e1 :: e2 :: (ka3, oA .int (oHd0.set ((oH ia1 ia2 ia3) &&& (15 : Int32)).toNatClampNeg (.int (0 : Int32)))) :: e4 :: (ka4, oO cn3 [(fk18, (.ref ka5)), (fk19, (.ref ka3)), (fk20, (.ref ka6))]) :: e6 :: e7 :: e8 :: e9 :: (ka1, oO cn0 [(fk0, (.ref ka7)), (fk1, (.ref ka8)), (fk2, (.int (3 : Int32))), (fk3, (.int (2147483639 : Int32))), (fk4, (.int (1073741824 : Int32))), (fk5, (.ref ka9)), (fk6, (.ref ka10)), (fk7, .null), (fk8, (.int (0 : Int32))), (fk9, (.int (1 : Int32))), (fk10, (.ref ka4))]) :: e11 :: e12 :: (ka2, oA .int [(.int ia4), (.int ia5), (.int ia6)]) :: ds) (fun (v : Option Value) (d : oDs) => (v = some (.int (-1 : Int32)) ∧ (e0 :: e1 :: e2 :: (ka3, oA .int (oHd0.set ((oH ia1 ia2 ia3) &&& (15 : Int32)).toNatClampNeg (.int (0 : Int32)))) :: e4 :: (ka4, oO cn3 [(fk18, (.ref ka5)), (fk19, (.ref ka3)), (fk20, (.ref ka6))]) :: e6 :: e7 :: e8 :: e9 :: (ka1, oO cn0 [(fk0, (.ref ka7)), (fk1, (.ref ka8)), (fk2, (.int (3 : Int32))), (fk3, (.int (2147483639 : Int32))), (fk4, (.int (1073741824 : Int32))), (fk5, (.ref ka9)), (fk6, (.ref ka10)), (fk7, .null), (fk8, (.int (0 : Int32))), (fk9, (.int (1 : Int32))), (fk10, (.ref ka4))]) :: e11 :: e12 :: (ka2, oA .int [(.int ia4), (.int ia5), (.int ia6)]) :: ds) = d)) := by
  refine oMet.of_body (plainFor_of_name pn_9) ?_
  intro p e s m below meth c T B hby hml hown hnm hret
  refine W_entry (ef_rm_a99 m ka1 ka2) ?_
  refine W_aloadN B (hb hby d27_0) (pc' := 1) rfl rfl rfl ?_
  refine W_privateS B (y := (⟨"com/example/tanglemark/tanglemark/datalog/Relation", "requireOpen", "()V"⟩ : MethodName)) hown (ow hw (i := 217) rfl) (ow hw (i := 218) rfl) (ow hw (i := 2) rfl) (ow hw (i := 219) rfl) (ow hw (i := 3) rfl) (ow hw (i := 220) rfl) (by decide) (a := ka1) (rm_a44 l Z a0 hw h0 ka1 _ _ _ _ _ _ _ _ _ _ ka7 ka8 ka9 ka10 ka4 _ ) (lenOf pd_0 rfl) (hb hby d27_1) (pc' := 4) rfl (argsL := []) (rest := []) rfl (by rw [hml]; rfl) (W := 0) (oLe rfl) (j := 10) rfl (by decide) (cells' := 0) rfl (slots' := 0) rfl ?_
  intro T v_ d_ q_ B
  obtain ⟨rfl, rfl⟩ := q_
  show oWin p e below Z h0 _ _ (T.setTop (mkF m 4 #[.val (.ref ka1), .val (.ref ka2)] []))
  refine W_aloadN B (hb hby d27_4) (pc' := 5) rfl rfl rfl ?_
  refine W_aloadN B (hb hby d27_5) (pc' := 6) rfl rfl rfl ?_
  refine W_getfield B hown (host := "") (Or.inl (ow hw (i := 200) rfl)) Via.refl (hb hby d27_6) (pc' := 9) rfl (j := 10) rfl (q := 10) rfl ?_
  intro T B
  refine W_aloadN B (hb hby d27_9) (pc' := 10) rfl rfl rfl ?_
  refine W_aloadN B (hb hby d27_10) (pc' := 11) rfl rfl rfl ?_
  refine W_getfield B hown (host := "") (Or.inl (ow hw (i := 198) rfl)) Via.refl (hb hby d27_11) (pc' := 14) rfl (j := 10) rfl (q := 9) rfl ?_
  intro T B
  refine W_virtual B (y := (⟨"com/example/tanglemark/tanglemark/datalog/Relation", "newest", "(Lcom/example/tanglemark/tanglemark/datalog/Relation$Chains;[II)I"⟩ : MethodName)) (z := (⟨"com/example/tanglemark/tanglemark/datalog/Relation", "newest", "(Lcom/example/tanglemark/tanglemark/datalog/Relation$Chains;[II)I"⟩ : MethodName)) hown (ow hw (i := 221) rfl) (ow hw (i := 222) rfl) (oNotFace B (ow hw (i := 224) rfl) rfl) (ow hw (i := 224) rfl) (ow hw (i := 223) rfl) (ow hw (i := 3) rfl) (ow hw (i := 225) rfl) (by decide) (a := ka1) (rm_a98 l Z a0 hw h0 ka1 ka4 ka2 _ _ _ ka3 ia1 ia2 ia3 _ ka5 ka6 _ _ _ _ _ _ _ ia4 ia5 ia6 _ hy0 hy1 hy2) (lenOf pd_19 rfl) (hb hby d27_14) (pc' := 17) rfl (argsL := [(.ref ka4), (.ref ka2), (.int (1 : Int32))]) (rest := []) rfl (by rw [hml]; rfl) (W := 0) (oLe rfl) (j := 10) rfl (by decide) (cells' := 0) rfl (slots' := 0) rfl ?_
  intro T v_ d_ q_ B
  obtain ⟨rfl, rfl⟩ := q_
  show oWin p e below Z h0 _ _ (T.setTop (mkF m 17 #[.val (.ref ka1), .val (.ref ka2)] [(.int (-1 : Int32))]))
  refine W_retI B hret (hb hby d27_17) (by decide) ?_
  exact ⟨rfl, rfl⟩
theorem ef_rm_a100 (m : MethodId) (x0 : Addr) (x1 : Addr) : entryFrame m #[(.ref x0), (.ref x1)] 2 = mkF m 0 #[.val (.ref x0), .val (.ref x1)] [] := by first | (simp [entryFrame, mkF, argsToLocals, Value.category]; done) | rfl
set_option maxRecDepth 65536 in
set_option maxHeartbeats 40000000 in
theorem rm_a100 (l : Launch) (Z : State) (a0 : Array Value) (hw : ∀ d ∈ tables_1, d.before a0 Z = true) (h0 : Heap) {lo : Nat} (ka1 : Addr) (ka2 : Addr) (e0 : Addr × oD) (e1 : Addr × oD) (e2 : Addr × oD) (ka3 : Addr) (ia1 : Int32) (ia2 : Int32) (ia3 : Int32) (e4 : Addr × oD) (ka4 : Addr) (ka5 : Addr) (ka6 : Addr) (e6 : Addr × oD) (e7 : Addr × oD) (e8 : Addr × oD) (e9 : Addr × oD) (ka7 : Addr) (ka8 : Addr) (ka9 : Addr) (ka10 : Addr) (e11 : Addr × oD) (e12 : Addr × oD) (ia4 : Int32) (ia5 : Int32) (ia6 : Int32) (ds : oDs) (hy0 : (oHd0.set ((oH ia1 ia2 ia3) &&& (15 : Int32)).toNatClampNeg (.int (0 : Int32))).length.toInt32 = (16 : Int32)) (hy1 : (oHd0.set ((oH ia1 ia2 ia3) &&& (15 : Int32)).toNatClampNeg (.int (0 : Int32)))[((oH ia4 ia5 ia6) &&& (15 : Int32)).toNatClampNeg]? = some (.int (-1 : Int32))) (hy2 : ¬ ((oH ia4 ia5 ia6) &&& (15 : Int32)) < (0 : Int32)) :
    oMet l Z h0 lo (⟨"com/example/tanglemark/tanglemark/datalog/Relation", "contains", "([I)Z"⟩ : MethodName) prog_45_method_13_code 2 (some .boolean) [] ({ frames := 4, cells := 0, slots := 0, locals := 60 } : Room) #[(.ref ka1), (.ref ka2)] (e0 :: e1 :: e2 :: (ka3, oA .int (oHd0.set ((oH ia1 ia2 ia3) &&& (15 : Int32)).toNatClampNeg (.int (0 : Int32)))) :: e4 :: (ka4, oO cn3 [(fk18, (.ref ka5)), (fk19, (.ref ka3)), (fk20, (.ref ka6))]) :: e6 :: e7 :: e8 :: e9 :: (ka1, oO cn0 [(fk0, (.ref ka7)), (fk1, (.ref ka8)), (fk2, (.int (3 : Int32))), (fk3, (.int (2147483639 : Int32))), (fk4, (.int (1073741824 : Int32))), (fk5, (.ref ka9)), (fk6, (.ref ka10)), (fk7, .null), (fk8, (.int (0 : Int32))), (fk9, (.int (1 : Int32))), (fk10, (.ref ka4))]) :: e11 :: e12 :: (ka2, oA .int [(.int ia4), (.int ia5), (.int ia6)]) :: ds) (fun (v : Option Value) (d : oDs) => (v = some (.int (0 : Int32)) ∧ (e0 :: e1 :: e2 :: (ka3, oA .int (oHd0.set ((oH ia1 ia2 ia3) &&& (15 : Int32)).toNatClampNeg (.int (0 : Int32)))) :: e4 :: (ka4, oO cn3 [(fk18, (.ref ka5)), (fk19, (.ref ka3)), (fk20, (.ref ka6))]) :: e6 :: e7 :: e8 :: e9 :: (ka1, oO cn0 [(fk0, (.ref ka7)), (fk1, (.ref ka8)), (fk2, (.int (3 : Int32))), (fk3, (.int (2147483639 : Int32))), (fk4, (.int (1073741824 : Int32))), (fk5, (.ref ka9)), (fk6, (.ref ka10)), (fk7, .null), (fk8, (.int (0 : Int32))), (fk9, (.int (1 : Int32))), (fk10, (.ref ka4))]) :: e11 :: e12 :: (ka2, oA .int [(.int ia4), (.int ia5), (.int ia6)]) :: ds) = d)) := by
  refine oMet.of_body (plainFor_of_name pn_9) ?_
  intro p e s m below meth c T B hby hml hown hnm hret
  refine W_entry (ef_rm_a100 m ka1 ka2) ?_
  refine W_aloadN B (hb hby d26_0) (pc' := 1) rfl rfl rfl ?_
  refine W_aloadN B (hb hby d26_1) (pc' := 2) rfl rfl rfl ?_
  refine W_virtual B (y := (⟨"com/example/tanglemark/tanglemark/datalog/Relation", "row", "([I)I"⟩ : MethodName)) (z := (⟨"com/example/tanglemark/tanglemark/datalog/Relation", "row", "([I)I"⟩ : MethodName)) hown (ow hw (i := 212) rfl) (ow hw (i := 213) rfl) (oNotFace B (ow hw (i := 215) rfl) rfl) (ow hw (i := 215) rfl) (ow hw (i := 214) rfl) (ow hw (i := 3) rfl) (ow hw (i := 216) rfl) (by decide) (a := ka1) (rm_a99 l Z a0 hw h0 ka1 ka2 _ _ _ ka3 ia1 ia2 ia3 _ ka4 ka5 ka6 _ _ _ _ ka7 ka8 ka9 ka10 _ _ ia4 ia5 ia6 _ hy0 hy1 hy2) (lenOf pd_17 rfl) (hb hby d26_2) (pc' := 5) rfl (argsL := [(.ref ka2)]) (rest := []) rfl (by rw [hml]; rfl) (W := 0) (oLe rfl) (j := 10) rfl (by decide) (cells' := 0) rfl (slots' := 0) rfl ?_
  intro T v_ d_ q_ B
  obtain ⟨rfl, rfl⟩ := q_
  show oWin p e below Z h0 _ _ (T.setTop (mkF m 5 #[.val (.ref ka1), .val (.ref ka2)] [(.int (-1 : Int32))]))
  refine W_ifY B (hb hby d26_5) (by decide) (pc' := 12) (by decide) (by decide) ?_
  refine W_iconst B (hb hby d26_12) (pc' := 13) rfl (z := (0 : Int32)) (by decide) ?_
  refine W_retN B hret (by simp) (hb hby d26_13) (by decide) ?_
  exact ⟨rfl, rfl⟩
theorem ef_rm_a101 (m : MethodId) (x0 : Addr) (x1 : Addr) : entryFrame m #[(.ref x0), (.ref x1), (.int (1 : Int32))] 4 = mkF m 0 #[.val (.ref x0), .val (.ref x1), .val (.int (1 : Int32)), .unset] [] := by first | (simp [entryFrame, mkF, argsToLocals, Value.category]; done) | rfl
set_option maxRecDepth 65536 in
set_option maxHeartbeats 40000000 in
theorem rm_a101 (l : Launch) (Z : State) (a0 : Array Value) (hw : ∀ d ∈ tables_1, d.before a0 Z = true) (h0 : Heap) {lo : Nat} (ka1 : Addr) (ka2 : Addr) (e0 : Addr × oD) (e1 : Addr × oD) (e2 : Addr × oD) (ka3 : Addr) (ka4 : Addr) (ia1 : Int32) (ia2 : Int32) (ia3 : Int32) (ka5 : Addr) (e7 : Addr × oD) (e8 : Addr × oD) (ka6 : Addr) (ia4 : Int32) (ia5 : Int32) (ia6 : Int32) (e10 : Addr × oD) (ka7 : Addr) (ka8 : Addr) (ka9 : Addr) (ds : oDs) (hy0 : ((oH ia4 ia5 ia6) &&& (15 : Int32)).toNatClampNeg < (oHd0.set ((oH ia1 ia2 ia3) &&& (15 : Int32)).toNatClampNeg (.int (0 : Int32))).length) (hy1 : (oHd0.set ((oH ia1 ia2 ia3) &&& (15 : Int32)).toNatClampNeg (.int (0 : Int32))).length.toInt32 = (16 : Int32)) (hy2 : (oHd0.set ((oH ia1 ia2 ia3) &&& (15 : Int32)).toNatClampNeg (.int (0 : Int32)))[((oH ia4 ia5 ia6) &&& (15 : Int32)).toNatClampNeg]? = some (.int (-1 : Int32))) (hy3 : ¬ ((oH ia4 ia5 ia6) &&& (15 : Int32)) < (0 : Int32)) :
    oMet l Z h0 lo (⟨"com/example/tanglemark/tanglemark/datalog/Relation", "link", "(Lcom/example/tanglemark/tanglemark/datalog/Relation$Chains;I)V"⟩ : MethodName) prog_45_method_35_code 4 none [] ({ frames := 2, cells := 0, slots := 0, locals := 32 } : Room) #[(.ref ka1), (.ref ka2), (.int (1 : Int32))] (e0 :: e1 :: e2 :: (ka3, oA .int [(.int (-1 : Int32)), o0, o0, o0, o0, o0, o0, o0, o0, o0, o0, o0, o0, o0, o0, o0]) :: (ka4, oA .int (oHd0.set ((oH ia1 ia2 ia3) &&& (15 : Int32)).toNatClampNeg (.int (0 : Int32)))) :: (ka5, oA .int [o0, (.int (1 : Int32)), (.int (2 : Int32))]) :: (ka2, oO cn3 [(fk18, (.ref ka5)), (fk19, (.ref ka4)), (fk20, (.ref ka3))]) :: e7 :: e8 :: (ka6, oA .int [(.int ia1), (.int ia2), (.int ia3), (.int ia4), (.int ia5), (.int ia6), o0, o0, o0, o0, o0, o0, o0, o0, o0, o0, o0, o0, o0, o0, o0, o0, o0, o0, o0, o0, o0, o0, o0, o0, o0, o0, o0, o0, o0, o0, o0, o0, o0, o0, o0, o0, o0, o0, o0, o0, o0, o0]) :: e10 :: (ka1, oO cn0 [(fk0, (.ref ka7)), (fk1, (.ref ka8)), (fk2, (.int (3 : Int32))), (fk3, (.int (2147483639 : Int32))), (fk4, (.int (1073741824 : Int32))), (fk5, (.ref ka6)), (fk6, (.ref ka9)), (fk7, .null), (fk8, (.int (0 : Int32))), (fk9, (.int (2 : Int32))), (fk10, (.ref ka2))]) :: ds) (fun (v : Option Value) (d : oDs) => (v = none ∧ (e0 :: e1 :: e2 :: (ka3, oA .int [(.int (-1 : Int32)), (.int (-1 : Int32)), o0, o0, o0, o0, o0, o0, o0, o0, o0, o0, o0, o0, o0, o0]) :: (ka4, oA .int ((oHd0.set ((oH ia1 ia2 ia3) &&& (15 : Int32)).toNatClampNeg (.int (0 : Int32))).set ((oH ia4 ia5 ia6) &&& (15 : Int32)).toNatClampNeg (.int (1 : Int32)))) :: (ka5, oA .int [o0, (.int (1 : Int32)), (.int (2 : Int32))]) :: (ka2, oO cn3 [(fk18, (.ref ka5)), (fk19, (.ref ka4)), (fk20, (.ref ka3))]) :: e7 :: e8 :: (ka6, oA .int [(.int ia1), (.int ia2), (.int ia3), (.int ia4), (.int ia5), (.int ia6), o0, o0, o0, o0, o0, o0, o0, o0, o0, o0, o0, o0, o0, o0, o0, o0, o0, o0, o0, o0, o0, o0, o0, o0, o0, o0, o0, o0, o0, o0, o0, o0, o0, o0, o0, o0, o0, o0, o0, o0, o0, o0]) :: e10 :: (ka1, oO cn0 [(fk0, (.ref ka7)), (fk1, (.ref ka8)), (fk2, (.int (3 : Int32))), (fk3, (.int (2147483639 : Int32))), (fk4, (.int (1073741824 : Int32))), (fk5, (.ref ka6)), (fk6, (.ref ka9)), (fk7, .null), (fk8, (.int (0 : Int32))), (fk9, (.int (2 : Int32))), (fk10, (.ref ka2))]) :: ds) = d)) := by
  refine oMet.of_body (plainFor_of_name pn_9) ?_
  intro p e s m below meth c T B hby hml hown hnm hret
  refine W_entry (ef_rm_a101 m ka1 ka2) ?_
  refine W_aloadN B (hb hby d38_0) (pc' := 1) rfl rfl rfl ?_
  refine W_aloadN B (hb hby d38_1) (pc' := 2) rfl rfl rfl ?_
  refine W_getfield B hown (host := "") (Or.inl (ow hw (i := 274) rfl)) (Via.of (ow hw (i := 275) rfl)) (hb hby d38_2) (pc' := 5) rfl (j := 6) rfl (q := 0) rfl ?_
  intro T B
  refine W_iloadN B (hb hby d38_5) (pc' := 6) rfl rfl ?_
  refine W_privateS B (y := (⟨"com/example/tanglemark/tanglemark/datalog/Relation", "hashRow", "([II)I"⟩ : MethodName)) hown (ow hw (i := 276) rfl) (ow hw (i := 277) rfl) (ow hw (i := 2) rfl) (ow hw (i := 278) rfl) (ow hw (i := 3) rfl) (ow hw (i := 279) rfl) (by decide) (a := ka1) (rm_a75 l Z a0 hw h0 ka1 ka5 _ _ _ _ _ _ _ _ ka6 ia1 ia2 ia3 ia4 ia5 ia6 _ ka7 ka8 ka9 ka2 _ ) (lenOf pd_22 rfl) (hb hby d38_6) (pc' := 9) rfl (argsL := [(.ref ka5), (.int (1 : Int32))]) (rest := []) rfl (by rw [hml]; rfl) (W := 0) (oLe rfl) (j := 11) rfl (by decide) (cells' := 0) rfl (slots' := 0) rfl ?_
  intro T v_ d_ q_ B
  obtain ⟨rfl, rfl⟩ := q_
  show oWin p e below Z h0 _ _ (T.setTop (mkF m 9 #[.val (.ref ka1), .val (.ref ka2), .val (.int (1 : Int32)), .unset] [(.int (oH ia4 ia5 ia6))]))
  refine W_aloadN B (hb hby d38_9) (pc' := 10) rfl rfl rfl ?_
  refine W_getfieldR B hown (ow hw (i := 239) rfl) (hb hby d38_10) (pc' := 13) rfl (j := 6) rfl (q := 1) rfl ?_
  refine W_arraylength B (hb hby d38_13) (pc' := 14) rfl (j := 4) rfl (z := (16 : Int32)) hy1 ?_
  refine W_iconst B (hb hby d38_14) (pc' := 15) rfl (z := (1 : Int32)) (by decide) ?_
  refine W_isub B (hb hby d38_15) (pc' := 16) rfl (z := (15 : Int32)) (by decide) ?_
  refine W_iand B (hb hby d38_16) (pc' := 17) rfl (z := ((oH ia4 ia5 ia6) &&& (15 : Int32))) rfl ?_
  refine W_istoreN B (hb hby d38_17) (pc' := 18) rfl (v := ((oH ia4 ia5 ia6) &&& (15 : Int32))) rfl (ls' := #[.val (.ref ka1), .val (.ref ka2), .val (.int (1 : Int32)), .val (.int ((oH ia4 ia5 ia6) &&& (15 : Int32)))]) rfl ?_
  refine W_aloadN B (hb hby d38_18) (pc' := 19) rfl rfl rfl ?_
  refine W_getfieldR B hown (ow hw (i := 269) rfl) (hb hby d38_19) (pc' := 22) rfl (j := 6) rfl (q := 2) rfl ?_
  refine W_iloadN B (hb hby d38_22) (pc' := 23) rfl rfl ?_
  refine W_aloadN B (hb hby d38_23) (pc' := 24) rfl rfl rfl ?_
  refine W_getfieldR B hown (ow hw (i := 239) rfl) (hb hby d38_24) (pc' := 27) rfl (j := 6) rfl (q := 1) rfl ?_
  refine W_iloadN B (hb hby d38_27) (pc' := 28) rfl rfl ?_
  refine W_iaload B (hb hby d38_28) (pc' := 29) rfl (i := 4) rfl hy3 (v := (.int (-1 : Int32))) hy2 ?_
  refine W_iastore B (hb hby d38_29) (pc' := 30) rfl (i := 3) rfl (by decide) (oLt rfl) (ds' := (e0 :: e1 :: e2 :: (ka3, oA .int [(.int (-1 : Int32)), (.int (-1 : Int32)), o0, o0, o0, o0, o0, o0, o0, o0, o0, o0, o0, o0, o0, o0]) :: (ka4, oA .int (oHd0.set ((oH ia1 ia2 ia3) &&& (15 : Int32)).toNatClampNeg (.int (0 : Int32)))) :: (ka5, oA .int [o0, (.int (1 : Int32)), (.int (2 : Int32))]) :: (ka2, oO cn3 [(fk18, (.ref ka5)), (fk19, (.ref ka4)), (fk20, (.ref ka3))]) :: e7 :: e8 :: (ka6, oA .int [(.int ia1), (.int ia2), (.int ia3), (.int ia4), (.int ia5), (.int ia6), o0, o0, o0, o0, o0, o0, o0, o0, o0, o0, o0, o0, o0, o0, o0, o0, o0, o0, o0, o0, o0, o0, o0, o0, o0, o0, o0, o0, o0, o0, o0, o0, o0, o0, o0, o0, o0, o0, o0, o0, o0, o0]) :: e10 :: (ka1, oO cn0 [(fk0, (.ref ka7)), (fk1, (.ref ka8)), (fk2, (.int (3 : Int32))), (fk3, (.int (2147483639 : Int32))), (fk4, (.int (1073741824 : Int32))), (fk5, (.ref ka6)), (fk6, (.ref ka9)), (fk7, .null), (fk8, (.int (0 : Int32))), (fk9, (.int (2 : Int32))), (fk10, (.ref ka2))]) :: ds)) rfl ?_
  intro T B
  refine W_aloadN B (hb hby d38_30) (pc' := 31) rfl rfl rfl ?_
  refine W_getfieldR B hown (ow hw (i := 239) rfl) (hb hby d38_31) (pc' := 34) rfl (j := 6) rfl (q := 1) rfl ?_
  refine W_iloadN B (hb hby d38_34) (pc' := 35) rfl rfl ?_
  refine W_iloadN B (hb hby d38_35) (pc' := 36) rfl rfl ?_
  refine W_iastore B (hb hby d38_36) (pc' := 37) rfl (i := 4) rfl hy3 hy0 (ds' := (e0 :: e1 :: e2 :: (ka3, oA .int [(.int (-1 : Int32)), (.int (-1 : Int32)), o0, o0, o0, o0, o0, o0, o0, o0, o0, o0, o0, o0, o0, o0]) :: (ka4, oA .int ((oHd0.set ((oH ia1 ia2 ia3) &&& (15 : Int32)).toNatClampNeg (.int (0 : Int32))).set ((oH ia4 ia5 ia6) &&& (15 : Int32)).toNatClampNeg (.int (1 : Int32)))) :: (ka5, oA .int [o0, (.int (1 : Int32)), (.int (2 : Int32))]) :: (ka2, oO cn3 [(fk18, (.ref ka5)), (fk19, (.ref ka4)), (fk20, (.ref ka3))]) :: e7 :: e8 :: (ka6, oA .int [(.int ia1), (.int ia2), (.int ia3), (.int ia4), (.int ia5), (.int ia6), o0, o0, o0, o0, o0, o0, o0, o0, o0, o0, o0, o0, o0, o0, o0, o0, o0, o0, o0, o0, o0, o0, o0, o0, o0, o0, o0, o0, o0, o0, o0, o0, o0, o0, o0, o0, o0, o0, o0, o0, o0, o0]) :: e10 :: (ka1, oO cn0 [(fk0, (.ref ka7)), (fk1, (.ref ka8)), (fk2, (.int (3 : Int32))), (fk3, (.int (2147483639 : Int32))), (fk4, (.int (1073741824 : Int32))), (fk5, (.ref ka6)), (fk6, (.ref ka9)), (fk7, .null), (fk8, (.int (0 : Int32))), (fk9, (.int (2 : Int32))), (fk10, (.ref ka2))]) :: ds)) rfl ?_
  intro T B
  refine W_retV B hret (hb hby d38_37) (by decide) ?_
  exact ⟨rfl, rfl⟩
theorem ef_rm_a102 (m : MethodId) (x0 : Addr) (x1 : Addr) : entryFrame m #[(.ref x0), (.ref x1), (.int (1 : Int32))] 4 = mkF m 0 #[.val (.ref x0), .val (.ref x1), .val (.int (1 : Int32)), .unset] [] := by first | (simp [entryFrame, mkF, argsToLocals, Value.category]; done) | rfl
set_option maxRecDepth 65536 in
set_option maxHeartbeats 40000000 in
theorem rm_a102 (l : Launch) (Z : State) (a0 : Array Value) (hw : ∀ d ∈ tables_1, d.before a0 Z = true) (h0 : Heap) {lo : Nat} (ka1 : Addr) (ka2 : Addr) (e0 : Addr × oD) (e1 : Addr × oD) (e2 : Addr × oD) (ka3 : Addr) (ka4 : Addr) (ia1 : Int32) (ia2 : Int32) (ia3 : Int32) (ka5 : Addr) (e7 : Addr × oD) (e8 : Addr × oD) (ka6 : Addr) (ia4 : Int32) (ia5 : Int32) (ia6 : Int32) (e10 : Addr × oD) (ka7 : Addr) (ka8 : Addr) (ka9 : Addr) (ds : oDs) (hy0 : ((oH ia4 ia5 ia6) &&& (15 : Int32)).toNatClampNeg < (oHd0.set ((oH ia1 ia2 ia3) &&& (15 : Int32)).toNatClampNeg (.int (0 : Int32))).length) (hy1 : (oHd0.set ((oH ia1 ia2 ia3) &&& (15 : Int32)).toNatClampNeg (.int (0 : Int32))).length.toInt32 = (16 : Int32)) (hy2 : (oHd0.set ((oH ia1 ia2 ia3) &&& (15 : Int32)).toNatClampNeg (.int (0 : Int32)))[((oH ia4 ia5 ia6) &&& (15 : Int32)).toNatClampNeg]? = some (.int (-1 : Int32))) (hy3 : ¬ ((oH ia4 ia5 ia6) &&& (15 : Int32)) < (0 : Int32)) :
    oMet l Z h0 lo (⟨"com/example/tanglemark/tanglemark/datalog/Relation", "insert", "(Lcom/example/tanglemark/tanglemark/datalog/Relation$Chains;I)V"⟩ : MethodName) prog_45_method_34_code 4 none [] ({ frames := 3, cells := 0, slots := 0, locals := 47 } : Room) #[(.ref ka1), (.ref ka2), (.int (1 : Int32))] (e0 :: e1 :: e2 :: (ka3, oA .int [(.int (-1 : Int32)), o0, o0, o0, o0, o0, o0, o0, o0, o0, o0, o0, o0, o0, o0, o0]) :: (ka4, oA .int (oHd0.set ((oH ia1 ia2 ia3) &&& (15 : Int32)).toNatClampNeg (.int (0 : Int32)))) :: (ka5, oA .int [o0, (.int (1 : Int32)), (.int (2 : Int32))]) :: (ka2, oO cn3 [(fk18, (.ref ka5)), (fk19, (.ref ka4)), (fk20, (.ref ka3))]) :: e7 :: e8 :: (ka6, oA .int [(.int ia1), (.int ia2), (.int ia3), (.int ia4), (.int ia5), (.int ia6), o0, o0, o0, o0, o0, o0, o0, o0, o0, o0, o0, o0, o0, o0, o0, o0, o0, o0, o0, o0, o0, o0, o0, o0, o0, o0, o0, o0, o0, o0, o0, o0, o0, o0, o0, o0, o0, o0, o0, o0, o0, o0]) :: e10 :: (ka1, oO cn0 [(fk0, (.ref ka7)), (fk1, (.ref ka8)), (fk2, (.int (3 : Int32))), (fk3, (.int (2147483639 : Int32))), (fk4, (.int (1073741824 : Int32))), (fk5, (.ref ka6)), (fk6, (.ref ka9)), (fk7, .null), (fk8, (.int (0 : Int32))), (fk9, (.int (2 : Int32))), (fk10, (.ref ka2))]) :: ds) (fun (v : Option Value) (d : oDs) => (v = none ∧ (e0 :: e1 :: e2 :: (ka3, oA .int [(.int (-1 : Int32)), (.int (-1 : Int32)), o0, o0, o0, o0, o0, o0, o0, o0, o0, o0, o0, o0, o0, o0]) :: (ka4, oA .int ((oHd0.set ((oH ia1 ia2 ia3) &&& (15 : Int32)).toNatClampNeg (.int (0 : Int32))).set ((oH ia4 ia5 ia6) &&& (15 : Int32)).toNatClampNeg (.int (1 : Int32)))) :: (ka5, oA .int [o0, (.int (1 : Int32)), (.int (2 : Int32))]) :: (ka2, oO cn3 [(fk18, (.ref ka5)), (fk19, (.ref ka4)), (fk20, (.ref ka3))]) :: e7 :: e8 :: (ka6, oA .int [(.int ia1), (.int ia2), (.int ia3), (.int ia4), (.int ia5), (.int ia6), o0, o0, o0, o0, o0, o0, o0, o0, o0, o0, o0, o0, o0, o0, o0, o0, o0, o0, o0, o0, o0, o0, o0, o0, o0, o0, o0, o0, o0, o0, o0, o0, o0, o0, o0, o0, o0, o0, o0, o0, o0, o0]) :: e10 :: (ka1, oO cn0 [(fk0, (.ref ka7)), (fk1, (.ref ka8)), (fk2, (.int (3 : Int32))), (fk3, (.int (2147483639 : Int32))), (fk4, (.int (1073741824 : Int32))), (fk5, (.ref ka6)), (fk6, (.ref ka9)), (fk7, .null), (fk8, (.int (0 : Int32))), (fk9, (.int (2 : Int32))), (fk10, (.ref ka2))]) :: ds) = d)) := by
  refine oMet.of_body (plainFor_of_name pn_9) ?_
  intro p e s m below meth c T B hby hml hown hnm hret
  refine W_entry (ef_rm_a102 m ka1 ka2) ?_
  refine W_iloadN B (hb hby d37_0) (pc' := 1) rfl rfl ?_
  refine W_aloadN B (hb hby d37_1) (pc' := 2) rfl rfl rfl ?_
  refine W_getfieldR B hown (ow hw (i := 269) rfl) (hb hby d37_2) (pc' := 5) rfl (j := 6) rfl (q := 2) rfl ?_
  refine W_arraylength B (hb hby d37_5) (pc' := 6) rfl (j := 3) rfl (z := (16 : Int32)) rfl ?_
  refine W_icmpY B (hb hby d37_6) (by decide) (pc' := 39) (by decide) (by decide) ?_
  refine W_iloadN B (hb hby d37_39) (pc' := 40) rfl rfl ?_
  refine W_aloadN B (hb hby d37_40) (pc' := 41) rfl rfl rfl ?_
  refine W_getfieldR B hown (ow hw (i := 239) rfl) (hb hby d37_41) (pc' := 44) rfl (j := 6) rfl (q := 1) rfl ?_
  refine W_arraylength B (hb hby d37_44) (pc' := 45) rfl (j := 4) rfl (z := (16 : Int32)) hy1 ?_
  refine W_icmpY B (hb hby d37_45) (by decide) (pc' := 100) (by decide) (by decide) ?_
  refine W_aloadN B (hb hby d37_100) (pc' := 101) rfl rfl rfl ?_
  refine W_aloadN B (hb hby d37_101) (pc' := 102) rfl rfl rfl ?_
  refine W_iloadN B (hb hby d37_102) (pc' := 103) rfl rfl ?_
  refine W_privateS B (y := (⟨"com/example/tanglemark/tanglemark/datalog/Relation", "link", "(Lcom/example/tanglemark/tanglemark/datalog/Relation$Chains;I)V"⟩ : MethodName)) hown (ow hw (i := 270) rfl) (ow hw (i := 271) rfl) (ow hw (i := 2) rfl) (ow hw (i := 272) rfl) (ow hw (i := 3) rfl) (ow hw (i := 273) rfl) (by decide) (a := ka1) (rm_a101 l Z a0 hw h0 ka1 ka2 _ _ _ ka3 ka4 ia1 ia2 ia3 ka5 _ _ ka6 ia4 ia5 ia6 _ ka7 ka8 ka9 _ hy0 hy1 hy2 hy3) (lenOf pd_23 rfl) (hb hby d37_103) (pc' := 106) rfl (argsL := [(.ref ka2), (.int (1 : Int32))]) (rest := []) rfl (by rw [hml]; rfl) (W := 0) (oLe rfl) (j := 11) rfl (by decide) (cells' := 0) rfl (slots' := 0) rfl ?_
  intro T v_ d_ q_ B
  obtain ⟨rfl, rfl⟩ := q_
  show oWin p e below Z h0 _ _ (T.setTop (mkF m 106 #[.val (.ref ka1), .val (.ref ka2), .val (.int (1 : Int32)), .unset] []))
  refine W_retV B hret (hb hby d37_106) (by decide) ?_
  exact ⟨rfl, rfl⟩
theorem ef_rm_a103 (m : MethodId) (x0 : Addr) (x1 : Addr) : entryFrame m #[(.ref x0), (.ref x1)] 5 = mkF m 0 #[.val (.ref x0), .val (.ref x1), .unset, .unset, .unset] [] := by first | (simp [entryFrame, mkF, argsToLocals, Value.category]; done) | rfl
set_option maxRecDepth 65536 in
set_option maxHeartbeats 40000000 in
theorem rm_a103 (l : Launch) (Z : State) (a0 : Array Value) (hw : ∀ d ∈ tables_1, d.before a0 Z = true) (h0 : Heap) {lo : Nat} (ka1 : Addr) (ka2 : Addr) (e0 : Addr × oD) (ka3 : Addr) (ka4 : Addr) (ka5 : Addr) (ka6 : Addr) (ia1 : Int32) (ia2 : Int32) (ia3 : Int32) (ka7 : Addr) (e6 : Addr × oD) (e7 : Addr × oD) (ka8 : Addr) (ka9 : Addr) (ka10 : Addr) (ka11 : Addr) (e11 : Addr × oD) (e12 : Addr × oD) (ia4 : Int32) (ia5 : Int32) (ia6 : Int32) (ds : oDs) (hy0 : ((oH ia4 ia5 ia6) &&& (15 : Int32)).toNatClampNeg < (oHd0.set ((oH ia1 ia2 ia3) &&& (15 : Int32)).toNatClampNeg (.int (0 : Int32))).length) (hy1 : (oHd0.set ((oH ia1 ia2 ia3) &&& (15 : Int32)).toNatClampNeg (.int (0 : Int32))).length.toInt32 = (16 : Int32)) (hy2 : (oHd0.set ((oH ia1 ia2 ia3) &&& (15 : Int32)).toNatClampNeg (.int (0 : Int32)))[((oH ia4 ia5 ia6) &&& (15 : Int32)).toNatClampNeg]? = some (.int (-1 : Int32))) (hy3 : ¬ ((oH ia4 ia5 ia6) &&& (15 : Int32)) < (0 : Int32)) :
    oMet l Z h0 lo (⟨"com/example/tanglemark/tanglemark/datalog/Relation", "append", "([I)V"⟩ : MethodName) prog_45_method_9_code 5 none [] ({ frames := 4, cells := 1, slots := 4, locals := 62 } : Room) #[(.ref ka1), (.ref ka2)] (e0 :: (ka3, oA (.object "java/lang/Object") [(.ref ka4), .null, .null, .null, .null, .null, .null, .null, .null, .null]) :: (ka5, oA .int [(.int (-1 : Int32)), o0, o0, o0, o0, o0, o0, o0, o0, o0, o0, o0, o0, o0, o0, o0]) :: (ka6, oA .int (oHd0.set ((oH ia1 ia2 ia3) &&& (15 : Int32)).toNatClampNeg (.int (0 : Int32)))) :: (ka7, oA .int [o0, (.int (1 : Int32)), (.int (2 : Int32))]) :: (ka4, oO cn3 [(fk18, (.ref ka7)), (fk19, (.ref ka6)), (fk20, (.ref ka5))]) :: e6 :: e7 :: (ka8, oA .int [(.int ia1), (.int ia2), (.int ia3), o0, o0, o0, o0, o0, o0, o0, o0, o0, o0, o0, o0, o0, o0, o0, o0, o0, o0, o0, o0, o0, o0, o0, o0, o0, o0, o0, o0, o0, o0, o0, o0, o0, o0, o0, o0, o0, o0, o0, o0, o0, o0, o0, o0, o0]) :: (ka9, oO cn1 [(fk11, (.int (1 : Int32))), (fk12, (.ref ka3)), (fk13, (.int (1 : Int32)))]) :: (ka1, oO cn0 [(fk0, (.ref ka9)), (fk1, (.ref ka10)), (fk2, (.int (3 : Int32))), (fk3, (.int (2147483639 : Int32))), (fk4, (.int (1073741824 : Int32))), (fk5, (.ref ka8)), (fk6, (.ref ka11)), (fk7, .null), (fk8, (.int (0 : Int32))), (fk9, (.int (1 : Int32))), (fk10, (.ref ka4))]) :: e11 :: e12 :: (ka2, oA .int [(.int ia4), (.int ia5), (.int ia6)]) :: ds) (fun (v : Option Value) (d : oDs) => (∃ (b199 : Addr), v = none ∧ ((b199, oO cn2 [(fk14, (.ref ka9)), (fk15, (.int (0 : Int32))), (fk16, (.int (1 : Int32))), (fk17, (.int (1 : Int32)))]) :: e0 :: (ka3, oA (.object "java/lang/Object") [(.ref ka4), .null, .null, .null, .null, .null, .null, .null, .null, .null]) :: (ka5, oA .int [(.int (-1 : Int32)), (.int (-1 : Int32)), o0, o0, o0, o0, o0, o0, o0, o0, o0, o0, o0, o0, o0, o0]) :: (ka6, oA .int ((oHd0.set ((oH ia1 ia2 ia3) &&& (15 : Int32)).toNatClampNeg (.int (0 : Int32))).set ((oH ia4 ia5 ia6) &&& (15 : Int32)).toNatClampNeg (.int (1 : Int32)))) :: (ka7, oA .int [o0, (.int (1 : Int32)), (.int (2 : Int32))]) :: (ka4, oO cn3 [(fk18, (.ref ka7)), (fk19, (.ref ka6)), (fk20, (.ref ka5))]) :: e6 :: e7 :: (ka8, oA .int [(.int ia1), (.int ia2), (.int ia3), (.int ia4), (.int ia5), (.int ia6), o0, o0, o0, o0, o0, o0, o0, o0, o0, o0, o0, o0, o0, o0, o0, o0, o0, o0, o0, o0, o0, o0, o0, o0, o0, o0, o0, o0, o0, o0, o0, o0, o0, o0, o0, o0, o0, o0, o0, o0, o0, o0]) :: (ka9, oO cn1 [(fk11, (.int (1 : Int32))), (fk12, (.ref ka3)), (fk13, (.int (1 : Int32)))]) :: (ka1, oO cn0 [(fk0, (.ref ka9)), (fk1, (.ref ka10)), (fk2, (.int (3 : Int32))), (fk3, (.int (2147483639 : Int32))), (fk4, (.int (1073741824 : Int32))), (fk5, (.ref ka8)), (fk6, (.ref ka11)), (fk7, .null), (fk8, (.int (0 : Int32))), (fk9, (.int (2 : Int32))), (fk10, (.ref ka4))]) :: e11 :: e12 :: (ka2, oA .int [(.int ia4), (.int ia5), (.int ia6)]) :: ds) = d)) := by
  refine oMet.of_body (plainFor_of_name pn_9) ?_
  intro p e s m below meth c T B hby hml hown hnm hret
  refine W_entry (ef_rm_a103 m ka1 ka2) ?_
  refine W_aloadN B (hb hby d34_0) (pc' := 1) rfl rfl rfl ?_
  refine W_privateS B (y := (⟨"com/example/tanglemark/tanglemark/datalog/Relation", "requireOpen", "()V"⟩ : MethodName)) hown (ow hw (i := 217) rfl) (ow hw (i := 218) rfl) (ow hw (i := 2) rfl) (ow hw (i := 219) rfl) (ow hw (i := 3) rfl) (ow hw (i := 220) rfl) (by decide) (a := ka1) (rm_a44 l Z a0 hw h0 ka1 _ _ _ _ _ _ _ _ _ _ ka9 ka10 ka8 ka11 ka4 _ ) (lenOf pd_0 rfl) (hb hby d34_1) (pc' := 4) rfl (argsL := []) (rest := []) rfl (by rw [hml]; rfl) (W := 0) (oLe rfl) (j := 10) rfl (by decide) (cells' := 0) rfl (slots' := 0) rfl ?_
  intro T v_ d_ q_ B
  obtain ⟨rfl, rfl⟩ := q_
  show oWin p e below Z h0 _ _ (T.setTop (mkF m 4 #[.val (.ref ka1), .val (.ref ka2), .unset, .unset, .unset] []))
  refine W_aloadN B (hb hby d34_4) (pc' := 5) rfl rfl rfl ?_
  refine W_getfield B hown (host := "") (Or.inl (ow hw (i := 198) rfl)) Via.refl (hb hby d34_5) (pc' := 8) rfl (j := 10) rfl (q := 9) rfl ?_
  intro T B
  refine W_iconst B (hb hby d34_8) (pc' := 9) rfl (z := (1 : Int32)) (by decide) ?_
  refine W_iadd B (hb hby d34_9) (pc' := 10) rfl (z := (2 : Int32)) (by decide) ?_
  refine W_i2l B (hb hby d34_10) (pc' := 11) rfl (z := (2 : Int64)) (by decide) ?_
  refine W_aloadN B (hb hby d34_11) (pc' := 12) rfl rfl rfl ?_
  refine W_getfield B hown (host := "") (Or.inl (ow hw (i := 50) rfl)) Via.refl (hb hby d34_12) (pc' := 15) rfl (j := 10) rfl (q := 2) rfl ?_
  intro T B
  refine W_i2l B (hb hby d34_15) (pc' := 16) rfl (z := (3 : Int64)) (by decide) ?_
  refine W_lmul B (hb hby d34_16) (pc' := 17) rfl (z := (6 : Int64)) (by decide) ?_
  refine W_aloadN B (hb hby d34_17) (pc' := 18) rfl rfl rfl ?_
  refine W_getfield B hown (host := "") (Or.inl (ow hw (i := 69) rfl)) Via.refl (hb hby d34_18) (pc' := 21) rfl (j := 10) rfl (q := 5) rfl ?_
  intro T B
  refine W_arraylength B (hb hby d34_21) (pc' := 22) rfl (j := 8) rfl (z := (48 : Int32)) rfl ?_
  refine W_i2l B (hb hby d34_22) (pc' := 23) rfl (z := (48 : Int64)) (by decide) ?_
  refine W_lcmpY_le B (hb hby d34_23) (hb hby d34_24) (by decide) (pc' := 85) (by decide) (by decide) ?_
  refine W_aloadN B (hb hby d34_85) (pc' := 86) rfl rfl rfl ?_
  refine W_iconst B (hb hby d34_86) (pc' := 87) rfl (z := (0 : Int32)) (by decide) ?_
  refine W_aloadN B (hb hby d34_87) (pc' := 88) rfl rfl rfl ?_
  refine W_getfield B hown (host := "") (Or.inl (ow hw (i := 69) rfl)) Via.refl (hb hby d34_88) (pc' := 91) rfl (j := 10) rfl (q := 5) rfl ?_
  intro T B
  refine W_aloadN B (hb hby d34_91) (pc' := 92) rfl rfl rfl ?_
  refine W_getfield B hown (host := "") (Or.inl (ow hw (i := 198) rfl)) Via.refl (hb hby d34_92) (pc' := 95) rfl (j := 10) rfl (q := 9) rfl ?_
  intro T B
  refine W_aloadN B (hb hby d34_95) (pc' := 96) rfl rfl rfl ?_
  refine W_getfield B hown (host := "") (Or.inl (ow hw (i := 50) rfl)) Via.refl (hb hby d34_96) (pc' := 99) rfl (j := 10) rfl (q := 2) rfl ?_
  intro T B
  refine W_imul B (hb hby d34_99) (pc' := 100) rfl (z := (3 : Int32)) (by decide) ?_
  refine W_aloadN B (hb hby d34_100) (pc' := 101) rfl rfl rfl ?_
  refine W_getfield B hown (host := "") (Or.inl (ow hw (i := 50) rfl)) Via.refl (hb hby d34_101) (pc' := 104) rfl (j := 10) rfl (q := 2) rfl ?_
  intro T B
  refine W_arraycopy B (j1 := 13) (j2 := 8) (z := (3 : Int32)) (z' := (48 : Int32)) (sp := (0 : Int32)) (dp := (3 : Int32)) (nn := (3 : Int32)) hown (ow hw (i := 245) rfl) (ow hw (i := 248) rfl) (ow hw (i := 246) rfl) (ow hw (i := 247) rfl) (hb hby d34_104) (pc' := 107) rfl (by rw [hml]; rfl) rfl rfl ⟨by decide, rfl⟩ ⟨by decide, rfl⟩ (by decide) ⟨oLe rfl, oLe rfl⟩ rfl (ds' := (e0 :: (ka3, oA (.object "java/lang/Object") [(.ref ka4), .null, .null, .null, .null, .null, .null, .null, .null, .null]) :: (ka5, oA .int [(.int (-1 : Int32)), o0, o0, o0, o0, o0, o0, o0, o0, o0, o0, o0, o0, o0, o0, o0]) :: (ka6, oA .int (oHd0.set ((oH ia1 ia2 ia3) &&& (15 : Int32)).toNatClampNeg (.int (0 : Int32)))) :: (ka7, oA .int [o0, (.int (1 : Int32)), (.int (2 : Int32))]) :: (ka4, oO cn3 [(fk18, (.ref ka7)), (fk19, (.ref ka6)), (fk20, (.ref ka5))]) :: e6 :: e7 :: (ka8, oA .int [(.int ia1), (.int ia2), (.int ia3), (.int ia4), (.int ia5), (.int ia6), o0, o0, o0, o0, o0, o0, o0, o0, o0, o0, o0, o0, o0, o0, o0, o0, o0, o0, o0, o0, o0, o0, o0, o0, o0, o0, o0, o0, o0, o0, o0, o0, o0, o0, o0, o0, o0, o0, o0, o0, o0, o0]) :: (ka9, oO cn1 [(fk11, (.int (1 : Int32))), (fk12, (.ref ka3)), (fk13, (.int (1 : Int32)))]) :: (ka1, oO cn0 [(fk0, (.ref ka9)), (fk1, (.ref ka10)), (fk2, (.int (3 : Int32))), (fk3, (.int (2147483639 : Int32))), (fk4, (.int (1073741824 : Int32))), (fk5, (.ref ka8)), (fk6, (.ref ka11)), (fk7, .null), (fk8, (.int (0 : Int32))), (fk9, (.int (1 : Int32))), (fk10, (.ref ka4))]) :: e11 :: e12 :: (ka2, oA .int [(.int ia4), (.int ia5), (.int ia6)]) :: ds)) rfl (W := 0) (oLe rfl) (by decide) ?_
  intro T B
  refine W_aloadN B (hb hby d34_107) (pc' := 108) rfl rfl rfl ?_
  refine W_dup B (hb hby d34_108) (pc' := 109) rfl rfl ?_
  refine W_getfield B hown (host := "") (Or.inl (ow hw (i := 198) rfl)) Via.refl (hb hby d34_109) (pc' := 112) rfl (j := 10) rfl (q := 9) rfl ?_
  intro T B
  refine W_dupX1 B (hb hby d34_112) (pc' := 113) rfl rfl rfl ?_
  refine W_iconst B (hb hby d34_113) (pc' := 114) rfl (z := (1 : Int32)) (by decide) ?_
  refine W_iadd B (hb hby d34_114) (pc' := 115) rfl (z := (2 : Int32)) (by decide) ?_
  refine W_putfield B hown (host := "") (Or.inl (ow hw (i := 198) rfl)) Via.refl (hb hby d34_115) (pc' := 118) rfl (Or.inl (ow hw (i := 199) rfl)) (ow hw (i := 2) rfl) (ty := .int) (by decide) rfl rfl (j := 10) rfl (q := 9) rfl (ds' := (e0 :: (ka3, oA (.object "java/lang/Object") [(.ref ka4), .null, .null, .null, .null, .null, .null, .null, .null, .null]) :: (ka5, oA .int [(.int (-1 : Int32)), o0, o0, o0, o0, o0, o0, o0, o0, o0, o0, o0, o0, o0, o0, o0]) :: (ka6, oA .int (oHd0.set ((oH ia1 ia2 ia3) &&& (15 : Int32)).toNatClampNeg (.int (0 : Int32)))) :: (ka7, oA .int [o0, (.int (1 : Int32)), (.int (2 : Int32))]) :: (ka4, oO cn3 [(fk18, (.ref ka7)), (fk19, (.ref ka6)), (fk20, (.ref ka5))]) :: e6 :: e7 :: (ka8, oA .int [(.int ia1), (.int ia2), (.int ia3), (.int ia4), (.int ia5), (.int ia6), o0, o0, o0, o0, o0, o0, o0, o0, o0, o0, o0, o0, o0, o0, o0, o0, o0, o0, o0, o0, o0, o0, o0, o0, o0, o0, o0, o0, o0, o0, o0, o0, o0, o0, o0, o0, o0, o0, o0, o0, o0, o0]) :: (ka9, oO cn1 [(fk11, (.int (1 : Int32))), (fk12, (.ref ka3)), (fk13, (.int (1 : Int32)))]) :: (ka1, oO cn0 [(fk0, (.ref ka9)), (fk1, (.ref ka10)), (fk2, (.int (3 : Int32))), (fk3, (.int (2147483639 : Int32))), (fk4, (.int (1073741824 : Int32))), (fk5, (.ref ka8)), (fk6, (.ref ka11)), (fk7, .null), (fk8, (.int (0 : Int32))), (fk9, (.int (2 : Int32))), (fk10, (.ref ka4))]) :: e11 :: e12 :: (ka2, oA .int [(.int ia4), (.int ia5), (.int ia6)]) :: ds)) rfl ?_
  intro T B
  refine W_istoreN B (hb hby d34_118) (pc' := 119) rfl (v := (1 : Int32)) rfl (ls' := #[.val (.ref ka1), .val (.ref ka2), .val (.int (1 : Int32)), .unset, .unset]) rfl ?_
  refine W_aloadN B (hb hby d34_119) (pc' := 120) rfl rfl rfl ?_
  refine W_getfield B hown (host := "") (Or.inl (ow hw (i := 46) rfl)) Via.refl (hb hby d34_120) (pc' := 123) rfl (j := 10) rfl (q := 0) rfl ?_
  intro T B
  refine W_iface B (xi := (⟨"java/util/List", "iterator", "()Ljava/util/Iterator;"⟩ : MethodName)) (y := (⟨"java/util/ArrayList", "iterator", "()Ljava/util/Iterator;"⟩ : MethodName)) hown (ow hw (i := 94) rfl) (ow hw (i := 95) rfl) (ow hw (i := 96) rfl) (ow hw (i := 97) rfl) (ow hw (i := 98) rfl) (ow hw (i := 99) rfl) (ow hw (i := 100) rfl) (ow hw (i := 101) rfl) (ow hw (i := 24) rfl) (ow hw (i := 102) rfl) (by decide) (a := ka9) (rm_a71 l Z a0 hw h0 ka9 _ _ _ _ _ _ _ _ _ ka3 _ ) (lenOf pd_6 rfl) (hb hby d34_123) (pc' := 128) rfl (argsL := []) (rest := []) rfl (by rw [hml]; rfl) (W := 0) (oLe rfl) (j := 9) rfl (by decide) (cells' := 1) rfl (slots' := 4) rfl ?_
  intro T v_ d_ q_ B
  obtain ⟨b199, rfl, rfl⟩ := q_
  show oWin p e below Z h0 _ _ (T.setTop (mkF m 128 #[.val (.ref ka1), .val (.ref ka2), .val (.int (1 : Int32)), .unset, .unset] [(.ref b199)]))
  refine W_astoreN B (hb hby d34_128) (pc' := 129) rfl rfl (ls' := #[.val (.ref ka1), .val (.ref ka2), .val (.int (1 : Int32)), .val (.ref b199), .unset]) rfl ?_
  refine W_aloadN B (hb hby d34_129) (pc' := 130) rfl rfl rfl ?_
  refine W_iface B (xi := (⟨"java/util/Iterator", "hasNext", "()Z"⟩ : MethodName)) (y := (⟨"java/util/ArrayList$Itr", "hasNext", "()Z"⟩ : MethodName)) hown (ow hw (i := 119) rfl) (ow hw (i := 120) rfl) (ow hw (i := 121) rfl) (ow hw (i := 122) rfl) (ow hw (i := 123) rfl) (ow hw (i := 124) rfl) (ow hw (i := 125) rfl) (ow hw (i := 126) rfl) (ow hw (i := 105) rfl) (ow hw (i := 127) rfl) (by decide) (a := b199) (rm_a72 l Z a0 hw h0 b199 ka9 _ _ _ _ _ _ _ _ _ ka3 _ ) (lenOf pd_7 rfl) (hb hby d34_130) (pc' := 135) rfl (argsL := []) (rest := []) rfl (by rw [hml]; rfl) (W := 0) (oLe rfl) (j := 0) rfl (by decide) (cells' := 1) rfl (slots' := 4) rfl ?_
  intro T v_ d_ q_ B
  obtain ⟨rfl, rfl⟩ := q_
  show oWin p e below Z h0 _ _ (T.setTop (mkF m 135 #[.val (.ref ka1), .val (.ref ka2), .val (.int (1 : Int32)), .val (.ref b199), .unset] [(.int (1 : Int32))]))
  refine W_ifN B (hb hby d34_135) (pc' := 138) rfl (by decide) ?_
  refine W_aloadN B (hb hby d34_138) (pc' := 139) rfl rfl rfl ?_
  refine W_iface B (xi := (⟨"java/util/Iterator", "next", "()Ljava/lang/Object;"⟩ : MethodName)) (y := (⟨"java/util/ArrayList$Itr", "next", "()Ljava/lang/Object;"⟩ : MethodName)) hown (ow hw (i := 249) rfl) (ow hw (i := 250) rfl) (ow hw (i := 251) rfl) (ow hw (i := 252) rfl) (ow hw (i := 253) rfl) (ow hw (i := 254) rfl) (ow hw (i := 255) rfl) (ow hw (i := 126) rfl) (ow hw (i := 105) rfl) (ow hw (i := 256) rfl) (by decide) (a := b199) (rm_a74 l Z a0 hw h0 b199 ka9 _ ka3 ka4 _ _ _ _ _ _ _ _ ) (lenOf pd_21 rfl) (hb hby d34_139) (pc' := 144) rfl (argsL := []) (rest := []) rfl (by rw [hml]; rfl) (W := 0) (oLe rfl) (j := 0) rfl (by decide) (cells' := 1) rfl (slots' := 4) rfl ?_
  intro T v_ d_ q_ B
  obtain ⟨rfl, rfl⟩ := q_
  show oWin p e below Z h0 _ _ (T.setTop (mkF m 144 #[.val (.ref ka1), .val (.ref ka2), .val (.int (1 : Int32)), .val (.ref b199), .unset] [(.ref ka4)]))
  refine W_castObj B hown (ow hw (i := 263) rfl) (j := 6) rfl (Or.inr (ow hw (i := 264) rfl)) (hb hby d34_144) (pc' := 147) rfl ?_
  intro T B
  refine W_astore B (hb hby d34_147) (pc' := 149) rfl rfl (ls' := #[.val (.ref ka1), .val (.ref ka2), .val (.int (1 : Int32)), .val (.ref b199), .val (.ref ka4)]) rfl ?_
  refine W_aloadN B (hb hby d34_149) (pc' := 150) rfl rfl rfl ?_
  refine W_aload B (hb hby d34_150) (pc' := 152) rfl rfl rfl ?_
  refine W_castObj (a0 := a0) B hown (ow hw (i := 136) rfl) (j := 6) rfl (Or.inl rfl) (hb hby d34_152) (pc' := 155) rfl ?_
  intro T B
  refine W_iloadN B (hb hby d34_155) (pc' := 156) rfl rfl ?_
  refine W_privateS B (y := (⟨"com/example/tanglemark/tanglemark/datalog/Relation", "insert", "(Lcom/example/tanglemark/tanglemark/datalog/Relation$Chains;I)V"⟩ : MethodName)) hown (ow hw (i := 265) rfl) (ow hw (i := 266) rfl) (ow hw (i := 2) rfl) (ow hw (i := 267) rfl) (ow hw (i := 3) rfl) (ow hw (i := 268) rfl) (by decide) (a := ka1) (rm_a102 l Z a0 hw h0 ka1 ka4 _ _ _ ka5 ka6 ia1 ia2 ia3 ka7 _ _ ka8 ia4 ia5 ia6 _ ka9 ka10 ka11 _ hy0 hy1 hy2 hy3) (lenOf pd_23 rfl) (hb hby d34_156) (pc' := 159) rfl (argsL := [(.ref ka4), (.int (1 : Int32))]) (rest := []) rfl (by rw [hml]; rfl) (W := 0) (oLe rfl) (j := 11) rfl (by decide) (cells' := 1) rfl (slots' := 4) rfl ?_
  intro T v_ d_ q_ B
  obtain ⟨rfl, rfl⟩ := q_
  show oWin p e below Z h0 _ _ (T.setTop (mkF m 159 #[.val (.ref ka1), .val (.ref ka2), .val (.int (1 : Int32)), .val (.ref b199), .val (.ref ka4)] []))
  refine W_goto B (hb hby d34_159) (by decide) (pc' := 129) (by decide) ?_
  refine W_aloadN B (hb hby d34_129) (pc' := 130) rfl rfl rfl ?_
  refine W_iface B (xi := (⟨"java/util/Iterator", "hasNext", "()Z"⟩ : MethodName)) (y := (⟨"java/util/ArrayList$Itr", "hasNext", "()Z"⟩ : MethodName)) hown (ow hw (i := 119) rfl) (ow hw (i := 120) rfl) (ow hw (i := 121) rfl) (ow hw (i := 122) rfl) (ow hw (i := 123) rfl) (ow hw (i := 124) rfl) (ow hw (i := 125) rfl) (ow hw (i := 126) rfl) (ow hw (i := 105) rfl) (ow hw (i := 127) rfl) (by decide) (a := b199) (rm_a78 l Z a0 hw h0 b199 ka9 _ _ _ _ _ _ _ _ _ ka3 _ ) (lenOf pd_7 rfl) (hb hby d34_130) (pc' := 135) rfl (argsL := []) (rest := []) rfl (by rw [hml]; rfl) (W := 0) (oLe rfl) (j := 0) rfl (by decide) (cells' := 1) rfl (slots' := 4) rfl ?_
  intro T v_ d_ q_ B
  obtain ⟨rfl, rfl⟩ := q_
  show oWin p e below Z h0 _ _ (T.setTop (mkF m 135 #[.val (.ref ka1), .val (.ref ka2), .val (.int (1 : Int32)), .val (.ref b199), .val (.ref ka4)] [(.int (0 : Int32))]))
  refine W_ifY B (hb hby d34_135) (by decide) (pc' := 162) (by decide) (by decide) ?_
  refine W_retV B hret (hb hby d34_162) (by decide) ?_
  exact ⟨b199, rfl, rfl⟩
theorem ef_rm_a104 (m : MethodId) (x0 : Addr) (x1 : Addr) : entryFrame m #[(.ref x0), (.ref x1)] 2 = mkF m 0 #[.val (.ref x0), .val (.ref x1)] [] := by first | (simp [entryFrame, mkF, argsToLocals, Value.category]; done) | rfl
set_option maxRecDepth 65536 in
set_option maxHeartbeats 40000000 in
theorem rm_a104 (l : Launch) (Z : State) (a0 : Array Value) (hw : ∀ d ∈ tables_1, d.before a0 Z = true) (h0 : Heap) {lo : Nat} (ka1 : Addr) (ka2 : Addr) (e0 : Addr × oD) (ka3 : Addr) (ka4 : Addr) (ka5 : Addr) (ka6 : Addr) (ia1 : Int32) (ia2 : Int32) (ia3 : Int32) (ka7 : Addr) (e6 : Addr × oD) (e7 : Addr × oD) (ka8 : Addr) (ka9 : Addr) (ka10 : Addr) (ka11 : Addr) (e11 : Addr × oD) (e12 : Addr × oD) (ia4 : Int32) (ia5 : Int32) (ia6 : Int32) (ds : oDs) (hy0 : ((oH ia4 ia5 ia6) &&& (15 : Int32)).toNatClampNeg < (oHd0.set ((oH ia1 ia2 ia3) &&& (15 : Int32)).toNatClampNeg (.int (0 : Int32))).length) (hy1 : (oHd0.set ((oH ia1 ia2 ia3) &&& (15 : Int32)).toNatClampNeg (.int (0 : Int32))).length.toInt32 = (16 : Int32)) (hy2 : (oHd0.set ((oH ia1 ia2 ia3) &&& (15 : Int32)).toNatClampNeg (.int (0 : Int32)))[((oH ia4 ia5 ia6) &&& (15 : Int32)).toNatClampNeg]? = some (.int (-1 : Int32))) (hy3 : ¬ ((oH ia4 ia5 ia6) &&& (15 : Int32)) < (0 : Int32)) :
    oMet l Z h0 lo (⟨"com/example/tanglemark/tanglemark/datalog/Relation", "add", "([I)Z"⟩ : MethodName) prog_45_method_8_code 2 (some .boolean) [] ({ frames := 5, cells := 1, slots := 4, locals := 78 } : Room) #[(.ref ka1), (.ref ka2)] (e0 :: (ka3, oA (.object "java/lang/Object") [(.ref ka4), .null, .null, .null, .null, .null, .null, .null, .null, .null]) :: (ka5, oA .int [(.int (-1 : Int32)), o0, o0, o0, o0, o0, o0, o0, o0, o0, o0, o0, o0, o0, o0, o0]) :: (ka6, oA .int (oHd0.set ((oH ia1 ia2 ia3) &&& (15 : Int32)).toNatClampNeg (.int (0 : Int32)))) :: (ka7, oA .int [o0, (.int (1 : Int32)), (.int (2 : Int32))]) :: (ka4, oO cn3 [(fk18, (.ref ka7)), (fk19, (.ref ka6)), (fk20, (.ref ka5))]) :: e6 :: e7 :: (ka8, oA .int [(.int ia1), (.int ia2), (.int ia3), o0, o0, o0, o0, o0, o0, o0, o0, o0, o0, o0, o0, o0, o0, o0, o0, o0, o0, o0, o0, o0, o0, o0, o0, o0, o0, o0, o0, o0, o0, o0, o0, o0, o0, o0, o0, o0, o0, o0, o0, o0, o0, o0, o0, o0]) :: (ka9, oO cn1 [(fk11, (.int (1 : Int32))), (fk12, (.ref ka3)), (fk13, (.int (1 : Int32)))]) :: (ka1, oO cn0 [(fk0, (.ref ka9)), (fk1, (.ref ka10)), (fk2, (.int (3 : Int32))), (fk3, (.int (2147483639 : Int32))), (fk4, (.int (1073741824 : Int32))), (fk5, (.ref ka8)), (fk6, (.ref ka11)), (fk7, .null), (fk8, (.int (0 : Int32))), (fk9, (.int (1 : Int32))), (fk10, (.ref ka4))]) :: e11 :: e12 :: (ka2, oA .int [(.int ia4), (.int ia5), (.int ia6)]) :: ds) (fun (v : Option Value) (d : oDs) => (∃ (b202 : Addr), v = some (.int (1 : Int32)) ∧ ((b202, oO cn2 [(fk14, (.ref ka9)), (fk15, (.int (0 : Int32))), (fk16, (.int (1 : Int32))), (fk17, (.int (1 : Int32)))]) :: e0 :: (ka3, oA (.object "java/lang/Object") [(.ref ka4), .null, .null, .null, .null, .null, .null, .null, .null, .null]) :: (ka5, oA .int [(.int (-1 : Int32)), (.int (-1 : Int32)), o0, o0, o0, o0, o0, o0, o0, o0, o0, o0, o0, o0, o0, o0]) :: (ka6, oA .int ((oHd0.set ((oH ia1 ia2 ia3) &&& (15 : Int32)).toNatClampNeg (.int (0 : Int32))).set ((oH ia4 ia5 ia6) &&& (15 : Int32)).toNatClampNeg (.int (1 : Int32)))) :: (ka7, oA .int [o0, (.int (1 : Int32)), (.int (2 : Int32))]) :: (ka4, oO cn3 [(fk18, (.ref ka7)), (fk19, (.ref ka6)), (fk20, (.ref ka5))]) :: e6 :: e7 :: (ka8, oA .int [(.int ia1), (.int ia2), (.int ia3), (.int ia4), (.int ia5), (.int ia6), o0, o0, o0, o0, o0, o0, o0, o0, o0, o0, o0, o0, o0, o0, o0, o0, o0, o0, o0, o0, o0, o0, o0, o0, o0, o0, o0, o0, o0, o0, o0, o0, o0, o0, o0, o0, o0, o0, o0, o0, o0, o0]) :: (ka9, oO cn1 [(fk11, (.int (1 : Int32))), (fk12, (.ref ka3)), (fk13, (.int (1 : Int32)))]) :: (ka1, oO cn0 [(fk0, (.ref ka9)), (fk1, (.ref ka10)), (fk2, (.int (3 : Int32))), (fk3, (.int (2147483639 : Int32))), (fk4, (.int (1073741824 : Int32))), (fk5, (.ref ka8)), (fk6, (.ref ka11)), (fk7, .null), (fk8, (.int (0 : Int32))), (fk9, (.int (2 : Int32))), (fk10, (.ref ka4))]) :: e11 :: e12 :: (ka2, oA .int [(.int ia4), (.int ia5), (.int ia6)]) :: ds) = d)) := by
  refine oMet.of_body (plainFor_of_name pn_9) ?_
  intro p e s m below meth c T B hby hml hown hnm hret
  refine W_entry (ef_rm_a104 m ka1 ka2) ?_
  refine W_aloadN B (hb hby d25_0) (pc' := 1) rfl rfl rfl ?_
  refine W_aloadN B (hb hby d25_1) (pc' := 2) rfl rfl rfl ?_
  refine W_virtual B (y := (⟨"com/example/tanglemark/tanglemark/datalog/Relation", "contains", "([I)Z"⟩ : MethodName)) (z := (⟨"com/example/tanglemark/tanglemark/datalog/Relation", "contains", "([I)Z"⟩ : MethodName)) hown (ow hw (i := 207) rfl) (ow hw (i := 208) rfl) (oNotFace B (ow hw (i := 210) rfl) rfl) (ow hw (i := 210) rfl) (ow hw (i := 209) rfl) (ow hw (i := 3) rfl) (ow hw (i := 211) rfl) (by decide) (a := ka1) (rm_a100 l Z a0 hw h0 ka1 ka2 _ _ _ ka6 ia1 ia2 ia3 _ ka4 ka7 ka5 _ _ _ _ ka9 ka10 ka8 ka11 _ _ ia4 ia5 ia6 _ hy1 hy2 hy3) (lenOf pd_20 rfl) (hb hby d25_2) (pc' := 5) rfl (argsL := [(.ref ka2)]) (rest := []) rfl (by rw [hml]; rfl) (W := 0) (oLe rfl) (j := 10) rfl (by decide) (cells' := 0) rfl (slots' := 0) rfl ?_
  intro T v_ d_ q_ B
  obtain ⟨rfl, rfl⟩ := q_
  show oWin p e below Z h0 _ _ (T.setTop (mkF m 5 #[.val (.ref ka1), .val (.ref ka2)] [(.int (0 : Int32))]))
  refine W_ifY B (hb hby d25_5) (by decide) (pc' := 10) (by decide) (by decide) ?_
  refine W_aloadN B (hb hby d25_10) (pc' := 11) rfl rfl rfl ?_
  refine W_aloadN B (hb hby d25_11) (pc' := 12) rfl rfl rfl ?_
  refine W_virtual B (y := (⟨"com/example/tanglemark/tanglemark/datalog/Relation", "append", "([I)V"⟩ : MethodName)) (z := (⟨"com/example/tanglemark/tanglemark/datalog/Relation", "append", "([I)V"⟩ : MethodName)) hown (ow hw (i := 240) rfl) (ow hw (i := 241) rfl) (oNotFace B (ow hw (i := 243) rfl) rfl) (ow hw (i := 243) rfl) (ow hw (i := 242) rfl) (ow hw (i := 3) rfl) (ow hw (i := 244) rfl) (by decide) (a := ka1) (rm_a103 l Z a0 hw h0 ka1 ka2 _ ka3 ka4 ka5 ka6 ia1 ia2 ia3 ka7 _ _ ka8 ka9 ka10 ka11 _ _ ia4 ia5 ia6 _ hy0 hy1 hy2 hy3) (lenOf pd_8 rfl) (hb hby d25_12) (pc' := 15) rfl (argsL := [(.ref ka2)]) (rest := []) rfl (by rw [hml]; rfl) (W := 0) (oLe rfl) (j := 10) rfl (by decide) (cells' := 1) rfl (slots' := 4) rfl ?_
  intro T v_ d_ q_ B
  obtain ⟨b202, rfl, rfl⟩ := q_
  show oWin p e below Z h0 _ _ (T.setTop (mkF m 15 #[.val (.ref ka1), .val (.ref ka2)] []))
  refine W_iconst B (hb hby d25_15) (pc' := 16) rfl (z := (1 : Int32)) (by decide) ?_
  refine W_retN B hret (by simp) (hb hby d25_16) (by decide) ?_
  exact ⟨b202, rfl, rfl⟩
theorem ef_rm_a105 (m : MethodId) (x0 : Addr) (x1 : Int32) : entryFrame m #[(.ref x0), (.int x1)] 2 = mkF m 0 #[.val (.ref x0), .val (.int x1)] [] := by first | (simp [entryFrame, mkF, argsToLocals, Value.category]; done) | rfl
set_option maxRecDepth 65536 in
set_option maxHeartbeats 40000000 in
theorem rm_a105 (l : Launch) (Z : State) (a0 : Array Value) (hw : ∀ d ∈ tables_1, d.before a0 Z = true) (h0 : Heap) {lo : Nat} (ka1 : Addr) (ia1 : Int32) (ia2 : Int32) (ia3 : Int32) (e0 : Addr × oD) (e1 : Addr × oD) (e2 : Addr × oD) (e3 : Addr × oD) (ka2 : Addr) (ia4 : Int32) (ia5 : Int32) (ia6 : Int32) (e5 : Addr × oD) (ka3 : Addr) (ka4 : Addr) (ds : oDs) (hy0 : ((oHd0.set ((oH ia1 ia2 ia3) &&& (15 : Int32)).toNatClampNeg (.int (0 : Int32))).set ((oH ia4 ia5 ia6) &&& (15 : Int32)).toNatClampNeg (.int (1 : Int32))).length.toInt32 = (16 : Int32)) (hy1 : ((oHd0.set ((oH ia1 ia2 ia3) &&& (15 : Int32)).toNatClampNeg (.int (0 : Int32))).set ((oH ia4 ia5 ia6) &&& (15 : Int32)).toNatClampNeg (.int (1 : Int32)))[((oH ia1 ia2 ia3) &&& (15 : Int32)).toNatClampNeg]? = some (.int (0 : Int32))) (hy2 : ¬ ((oH ia1 ia2 ia3) &&& (15 : Int32)) < (0 : Int32)) :
    oMet l Z h0 lo (⟨"com/example/tanglemark/tanglemark/datalog/Relation", "first", "(Lcom/example/tanglemark/tanglemark/datalog/Relation$Chains;I)I"⟩ : MethodName) prog_45_method_28_code 2 (some .int) [] ({ frames := 0, cells := 0, slots := 0, locals := 0 } : Room) #[(.ref ka1), (.int (oH ia1 ia2 ia3))] (e0 :: e1 :: e2 :: e3 :: (ka2, oA .int ((oHd0.set ((oH ia1 ia2 ia3) &&& (15 : Int32)).toNatClampNeg (.int (0 : Int32))).set ((oH ia4 ia5 ia6) &&& (15 : Int32)).toNatClampNeg (.int (1 : Int32)))) :: e5 :: (ka1, oO cn3 [(fk18, (.ref ka3)), (fk19, (.ref ka2)), (fk20, (.ref ka4))]) :: ds) (fun (v : Option Value) (d : oDs) => (v = some (.int (0 : Int32)) ∧ (e0 :: e1 :: e2 :: e3 :: (ka2, oA .int ((oHd0.set ((oH ia1 ia2 ia3) &&& (15 : Int32)).toNatClampNeg (.int (0 : Int32))).set ((oH ia4 ia5 ia6) &&& (15 : Int32)).toNatClampNeg (.int (1 : Int32)))) :: e5 :: (ka1, oO cn3 [(fk18, (.ref ka3)), (fk19, (.ref ka2)), (fk20, (.ref ka4))]) :: ds) = d)) := by
  refine oMet.of_body (plainFor_of_name pn_9) ?_
  intro p e s m below meth c T B hby hml hown hnm hret
  refine W_entry (ef_rm_a105 m ka1 (oH ia1 ia2 ia3)) ?_
  refine W_aloadN B (hb hby d33_0) (pc' := 1) rfl rfl rfl ?_
  refine W_getfieldR B hown (ow hw (i := 239) rfl) (hb hby d33_1) (pc' := 4) rfl (j := 6) rfl (q := 1) rfl ?_
  refine W_iloadN B (hb hby d33_4) (pc' := 5) rfl rfl ?_
  refine W_aloadN B (hb hby d33_5) (pc' := 6) rfl rfl rfl ?_
  refine W_getfieldR B hown (ow hw (i := 239) rfl) (hb hby d33_6) (pc' := 9) rfl (j := 6) rfl (q := 1) rfl ?_
  refine W_arraylength B (hb hby d33_9) (pc' := 10) rfl (j := 4) rfl (z := (16 : Int32)) hy0 ?_
  refine W_iconst B (hb hby d33_10) (pc' := 11) rfl (z := (1 : Int32)) (by decide) ?_
  refine W_isub B (hb hby d33_11) (pc' := 12) rfl (z := (15 : Int32)) (by decide) ?_
  refine W_iand B (hb hby d33_12) (pc' := 13) rfl (z := ((oH ia1 ia2 ia3) &&& (15 : Int32))) rfl ?_
  refine W_iaload B (hb hby d33_13) (pc' := 14) rfl (i := 4) rfl hy2 (v := (.int (0 : Int32))) hy1 ?_
  refine W_retI B hret (hb hby d33_14) (by decide) ?_
  exact ⟨rfl, rfl⟩
theorem ef_rm_a106 (m : MethodId) (x0 : Addr) (x1 : Addr) (x2 : Addr) : entryFrame m #[(.ref x0), (.ref x1), (.ref x2), (.int (2 : Int32))] 5 = mkF m 0 #[.val (.ref x0), .val (.ref x1), .val (.ref x2), .val (.int (2 : Int32)), .unset] [] := by first | (simp [entryFrame, mkF, argsToLocals, Value.category]; done) | rfl
set_option maxRecDepth 65536 in
set_option maxHeartbeats 40000000 in
theorem rm_a106 (l : Launch) (Z : State) (a0 : Array Value) (hw : ∀ d ∈ tables_1, d.before a0 Z = true) (h0 : Heap) {lo : Nat} (ka1 : Addr) (ka2 : Addr) (ka3 : Addr) (e0 : Addr × oD) (e1 : Addr × oD) (e2 : Addr × oD) (e3 : Addr × oD) (ka4 : Addr) (ia1 : Int32) (ia2 : Int32) (ia3 : Int32) (ia4 : Int32) (ia5 : Int32) (ia6 : Int32) (ka5 : Addr) (ka6 : Addr) (e7 : Addr × oD) (e8 : Addr × oD) (ka7 : Addr) (e10 : Addr × oD) (ka8 : Addr) (ka9 : Addr) (ka10 : Addr) (e12 : Addr × oD) (ds : oDs) (hy0 : ((oHd0.set ((oH ia1 ia2 ia3) &&& (15 : Int32)).toNatClampNeg (.int (0 : Int32))).set ((oH ia4 ia5 ia6) &&& (15 : Int32)).toNatClampNeg (.int (1 : Int32))).length.toInt32 = (16 : Int32)) (hy1 : ((oHd0.set ((oH ia1 ia2 ia3) &&& (15 : Int32)).toNatClampNeg (.int (0 : Int32))).set ((oH ia4 ia5 ia6) &&& (15 : Int32)).toNatClampNeg (.int (1 : Int32)))[((oH ia1 ia2 ia3) &&& (15 : Int32)).toNatClampNeg]? = some (.int (0 : Int32))) (hy2 : ¬ ((oH ia1 ia2 ia3) &&& (15 : Int32)) < (0 : Int32)) :
    oMet l Z h0 lo (⟨"com/example/tanglemark/tanglemark/datalog/Relation", "newest", "(Lcom/example/tanglemark/tanglemark/datalog/Relation$Chains;[II)I"⟩ : MethodName) prog_45_method_15_code 5 (some .int) [] ({ frames := 2, cells := 0, slots := 0, locals := 31 } : Room) #[(.ref ka1), (.ref ka2), (.ref ka3), (.int (2 : Int32))] (e0 :: e1 :: e2 :: e3 :: (ka4, oA .int ((oHd0.set ((oH ia1 ia2 ia3) &&& (15 : Int32)).toNatClampNeg (.int (0 : Int32))).set ((oH ia4 ia5 ia6) &&& (15 : Int32)).toNatClampNeg (.int (1 : Int32)))) :: (ka5, oA .int [o0, (.int (1 : Int32)), (.int (2 : Int32))]) :: (ka2, oO cn3 [(fk18, (.ref ka5)), (fk19, (.ref ka4)), (fk20, (.ref ka6))]) :: e7 :: e8 :: (ka7, oA .int [(.int ia1), (.int ia2), (.int ia3), (.int ia4), (.int ia5), (.int ia6), o0, o0, o0, o0, o0, o0, o0, o0, o0, o0, o0, o0, o0, o0, o0, o0, o0, o0, o0, o0, o0, o0, o0, o0, o0, o0, o0, o0, o0, o0, o0, o0, o0, o0, o0, o0, o0, o0, o0, o0, o0, o0]) :: e10 :: (ka1, oO cn0 [(fk0, (.ref ka8)), (fk1, (.ref ka9)), (fk2, (.int (3 : Int32))), (fk3, (.int (2147483639 : Int32))), (fk4, (.int (1073741824 : Int32))), (fk5, (.ref ka7)), (fk6, (.ref ka10)), (fk7, .null), (fk8, (.int (0 : Int32))), (fk9, (.int (2 : Int32))), (fk10, (.ref ka2))]) :: e12 :: (ka3, oA .int [(.int ia1), (.int ia2), (.int ia3)]) :: ds) (fun (v : Option Value) (d : oDs) => (v = some (.int (0 : Int32)) ∧ (e0 :: e1 :: e2 :: e3 :: (ka4, oA .int ((oHd0.set ((oH ia1 ia2 ia3) &&& (15 : Int32)).toNatClampNeg (.int (0 : Int32))).set ((oH ia4 ia5 ia6) &&& (15 : Int32)).toNatClampNeg (.int (1 : Int32)))) :: (ka5, oA .int [o0, (.int (1 : Int32)), (.int (2 : Int32))]) :: (ka2, oO cn3 [(fk18, (.ref ka5)), (fk19, (.ref ka4)), (fk20, (.ref ka6))]) :: e7 :: e8 :: (ka7, oA .int [(.int ia1), (.int ia2), (.int ia3), (.int ia4), (.int ia5), (.int ia6), o0, o0, o0, o0, o0, o0, o0, o0, o0, o0, o0, o0, o0, o0, o0, o0, o0, o0, o0, o0, o0, o0, o0, o0, o0, o0, o0, o0, o0, o0, o0, o0, o0, o0, o0, o0, o0, o0, o0, o0, o0, o0]) :: e10 :: (ka1, oO cn0 [(fk0, (.ref ka8)), (fk1, (.ref ka9)), (fk2, (.int (3 : Int32))), (fk3, (.int (2147483639 : Int32))), (fk4, (.int (1073741824 : Int32))), (fk5, (.ref ka7)), (fk6, (.ref ka10)), (fk7, .null), (fk8, (.int (0 : Int32))), (fk9, (.int (2 : Int32))), (fk10, (.ref ka2))]) :: e12 :: (ka3, oA .int [(.int ia1), (.int ia2), (.int ia3)]) :: ds) = d)) := by
  refine oMet.of_body (plainFor_of_name pn_9) ?_
  intro p e s m below meth c T B hby hml hown hnm hret
  refine W_entry (ef_rm_a106 m ka1 ka2 ka3) ?_
  refine W_aloadN B (hb hby d29_0) (pc' := 1) rfl rfl rfl ?_
  refine W_aloadN B (hb hby d29_1) (pc' := 2) rfl rfl rfl ?_
  refine W_callS B (y := (⟨"com/example/tanglemark/tanglemark/datalog/Relation", "hash", "([I)I"⟩ : MethodName)) hown (ow hw (i := 226) rfl) (ow hw (i := 227) rfl) (ow hw (i := 3) rfl) (ow hw (i := 228) rfl) (by decide) (rm_a28 l Z a0 hw h0 ka3 _ _ _ _ _ _ _ _ _ _ _ _ _ ia1 ia2 ia3 _ ) (lenOf pd_17 rfl) (hb hby d29_2) (pc' := 5) rfl (argsL := [(.ref ka3)]) (rest := [(.ref ka2)]) rfl (by rw [hml]; rfl) (W := 1) (oLe rfl) (by decide) (cells' := 0) rfl (slots' := 0) rfl ?_
  intro T v_ d_ q_ B
  obtain ⟨rfl, rfl⟩ := q_
  show oWin p e below Z h0 _ _ (T.setTop (mkF m 5 #[.val (.ref ka1), .val (.ref ka2), .val (.ref ka3), .val (.int (2 : Int32)), .unset] [(.int (oH ia1 ia2 ia3)), (.ref ka2)]))
  refine W_callS B (y := (⟨"com/example/tanglemark/tanglemark/datalog/Relation", "first", "(Lcom/example/tanglemark/tanglemark/datalog/Relation$Chains;I)I"⟩ : MethodName)) hown (ow hw (i := 236) rfl) (ow hw (i := 237) rfl) (ow hw (i := 3) rfl) (ow hw (i := 238) rfl) (by decide) (rm_a105 l Z a0 hw h0 ka2 ia1 ia2 ia3 _ _ _ _ ka4 ia4 ia5 ia6 _ ka5 ka6 _ hy0 hy1 hy2) (lenOf pd_18 rfl) (hb hby d29_5) (pc' := 8) rfl (argsL := [(.ref ka2), (.int (oH ia1 ia2 ia3))]) (rest := []) rfl (by rw [hml]; rfl) (W := 0) (oLe rfl) (by decide) (cells' := 0) rfl (slots' := 0) rfl ?_
  intro T v_ d_ q_ B
  obtain ⟨rfl, rfl⟩ := q_
  show oWin p e below Z h0 _ _ (T.setTop (mkF m 8 #[.val (.ref ka1), .val (.ref ka2), .val (.ref ka3), .val (.int (2 : Int32)), .unset] [(.int (0 : Int32))]))
  refine W_istore B (hb hby d29_8) (pc' := 10) rfl (v := (0 : Int32)) rfl (ls' := #[.val (.ref ka1), .val (.ref ka2), .val (.ref ka3), .val (.int (2 : Int32)), .val (.int (0 : Int32))]) rfl ?_
  refine W_iload B (hb hby d29_10) (pc' := 12) rfl rfl ?_
  refine W_ifN B (hb hby d29_12) (pc' := 15) rfl (by decide) ?_
  refine W_iload B (hb hby d29_15) (pc' := 17) rfl rfl ?_
  refine W_iloadN B (hb hby d29_17) (pc' := 18) rfl rfl ?_
  refine W_icmpN B (hb hby d29_18) (pc' := 21) rfl (by decide) ?_
  refine W_aloadN B (hb hby d29_21) (pc' := 22) rfl rfl rfl ?_
  refine W_iload B (hb hby d29_22) (pc' := 24) rfl rfl ?_
  refine W_aloadN B (hb hby d29_24) (pc' := 25) rfl rfl rfl ?_
  refine W_getfield B hown (host := "") (Or.inl (ow hw (i := 274) rfl)) (Via.of (ow hw (i := 275) rfl)) (hb hby d29_25) (pc' := 28) rfl (j := 6) rfl (q := 0) rfl ?_
  intro T B
  refine W_aloadN B (hb hby d29_28) (pc' := 29) rfl rfl rfl ?_
  refine W_privateS B (y := (⟨"com/example/tanglemark/tanglemark/datalog/Relation", "hasKey", "(I[I[I)Z"⟩ : MethodName)) hown (ow hw (i := 280) rfl) (ow hw (i := 281) rfl) (ow hw (i := 2) rfl) (ow hw (i := 282) rfl) (ow hw (i := 3) rfl) (ow hw (i := 283) rfl) (by decide) (a := ka1) (rm_a85 l Z a0 hw h0 ka1 ka5 ka3 _ _ _ _ _ _ _ _ ka7 ia1 ia2 ia3 ia4 ia5 ia6 _ ka8 ka9 ka10 ka2 _ _ ) (lenOf pd_24 rfl) (hb hby d29_29) (pc' := 32) rfl (argsL := [(.int (0 : Int32)), (.ref ka5), (.ref ka3)]) (rest := []) rfl (by rw [hml]; rfl) (W := 0) (oLe rfl) (j := 11) rfl (by decide) (cells' := 0) rfl (slots' := 0) rfl ?_
  intro T v_ d_ q_ B
  obtain ⟨rfl, rfl⟩ := q_
  show oWin p e below Z h0 _ _ (T.setTop (mkF m 32 #[.val (.ref ka1), .val (.ref ka2), .val (.ref ka3), .val (.int (2 : Int32)), .val (.int (0 : Int32))] [(.int (1 : Int32))]))
  refine W_ifN B (hb hby d29_32) (pc' := 35) rfl (by decide) ?_
  refine W_iload B (hb hby d29_35) (pc' := 37) rfl rfl ?_
  refine W_retI B hret (hb hby d29_37) (by decide) ?_
  exact ⟨rfl, rfl⟩
theorem ef_rm_a107 (m : MethodId) (x0 : Addr) (x1 : Addr) : entryFrame m #[(.ref x0), (.ref x1)] 2 = mkF m 0 #[.val (.ref x0), .val (.ref x1)] [] := by first | (simp [entryFrame, mkF, argsToLocals, Value.category]; done) | rfl
set_option maxRecDepth 65536 in
set_option maxHeartbeats 40000000 in
theorem rm_a107 (l : Launch) (Z : State) (a0 : Array Value) (hw : ∀ d ∈ tables_1, d.before a0 Z = true) (h0 : Heap) {lo : Nat} (ka1 : Addr) (ka2 : Addr) (e0 : Addr × oD) (e1 : Addr × oD) (e2 : Addr × oD) (e3 : Addr × oD) (ka3 : Addr) (ia1 : Int32) (ia2 : Int32) (ia3 : Int32) (ia4 : Int32) (ia5 : Int32) (ia6 : Int32) (ka4 : Addr) (ka5 : Addr) (ka6 : Addr) (e7 : Addr × oD) (e8 : Addr × oD) (ka7 : Addr) (e10 : Addr × oD) (ka8 : Addr) (ka9 : Addr) (ka10 : Addr) (e12 : Addr × oD) (ds : oDs) (hy0 : ((oHd0.set ((oH ia1 ia2 ia3) &&& (15 : Int32)).toNatClampNeg (.int (0 : Int32))).set ((oH ia4 ia5 ia6) &&& (15 : Int32)).toNatClampNeg (.int (1 : Int32))).length.toInt32 = (16 : Int32)) (hy1 : ((oHd0.set ((oH ia1 ia2 ia3) &&& (15 : Int32)).toNatClampNeg (.int (0 : Int32))).set ((oH ia4 ia5 ia6) &&& (15 : Int32)).toNatClampNeg (.int (1 : Int32)))[((oH ia1 ia2 ia3) &&& (15 : Int32)).toNatClampNeg]? = some (.int (0 : Int32))) (hy2 : ¬ ((oH ia1 ia2 ia3) &&& (15 : Int32)) < (0 : Int32)) :
    oMet l Z h0 lo (⟨"com/example/tanglemark/tanglemark/datalog/Relation", "row", "([I)I"⟩ : MethodName) prog_45_method_14_code 2 (some .int) [] ({ frames := 3, cells := 0, slots := 0, locals := 47 } : Room) #[(.ref ka1), (.ref ka2)] (e0 :: e1 :: e2 :: e3 :: (ka3, oA .int ((oHd0.set ((oH ia1 ia2 ia3) &&& (15 : Int32)).toNatClampNeg (.int (0 : Int32))).set ((oH ia4 ia5 ia6) &&& (15 : Int32)).toNatClampNeg (.int (1 : Int32)))) :: (ka4, oA .int [o0, (.int (1 : Int32)), (.int (2 : Int32))]) :: (ka5, oO cn3 [(fk18, (.ref ka4)), (fk19, (.ref ka3)), (fk20, (.ref ka6))]) :: e7 :: e8 :: (ka7, oA .int [(.int ia1), (.int ia2), (.int ia3), (.int ia4), (.int ia5), (.int ia6), o0, o0, o0, o0, o0, o0, o0, o0, o0, o0, o0, o0, o0, o0, o0, o0, o0, o0, o0, o0, o0, o0, o0, o0, o0, o0, o0, o0, o0, o0, o0, o0, o0, o0, o0, o0, o0, o0, o0, o0, o0, o0]) :: e10 :: (ka1, oO cn0 [(fk0, (.ref ka8)), (fk1, (.ref ka9)), (fk2, (.int (3 : Int32))), (fk3, (.int (2147483639 : Int32))), (fk4, (.int (1073741824 : Int32))), (fk5, (.ref ka7)), (fk6, (.ref ka10)), (fk7, .null), (fk8, (.int (0 : Int32))), (fk9, (.int (2 : Int32))), (fk10, (.ref ka5))]) :: e12 :: (ka2, oA .int [(.int ia1), (.int ia2), (.int ia3)]) :: ds) (fun (v : Option Value) (d : oDs) => (v = some (.int (0 : Int32)) ∧ (e0 :: e1 :: e2 :: e3 :: (ka3, oA .int ((oHd0.set ((oH ia1 ia2 ia3) &&& (15 : Int32)).toNatClampNeg (.int (0 : Int32))).set ((oH ia4 ia5 ia6) &&& (15 : Int32)).toNatClampNeg (.int (1 : Int32)))) :: (ka4, oA .int [o0, (.int (1 : Int32)), (.int (2 : Int32))]) :: (ka5, oO cn3 [(fk18, (.ref ka4)), (fk19, (.ref ka3)), (fk20, (.ref ka6))]) :: e7 :: e8 :: (ka7, oA .int [(.int ia1), (.int ia2), (.int ia3), (.int ia4), (.int ia5), (.int ia6), o0, o0, o0, o0, o0, o0, o0, o0, o0, o0, o0, o0, o0, o0, o0, o0, o0, o0, o0, o0, o0, o0, o0, o0, o0, o0, o0, o0, o0, o0, o0, o0, o0, o0, o0, o0, o0, o0, o0, o0, o0, o0]) :: e10 :: (ka1, oO cn0 [(fk0, (.ref ka8)), (fk1, (.ref ka9)), (fk2, (.int (3 : Int32))), (fk3, (.int (2147483639 : Int32))), (fk4, (.int (1073741824 : Int32))), (fk5, (.ref ka7)), (fk6, (.ref ka10)), (fk7, .null), (fk8, (.int (0 : Int32))), (fk9, (.int (2 : Int32))), (fk10, (.ref ka5))]) :: e12 :: (ka2, oA .int [(.int ia1), (.int ia2), (.int ia3)]) :: ds) = d)) := by
  refine oMet.of_body (plainFor_of_name pn_9) ?_
  intro p e s m below meth c T B hby hml hown hnm hret
  refine W_entry (ef_rm_a107 m ka1 ka2) ?_
  refine W_aloadN B (hb hby d27_0) (pc' := 1) rfl rfl rfl ?_
  refine W_privateS B (y := (⟨"com/example/tanglemark/tanglemark/datalog/Relation", "requireOpen", "()V"⟩ : MethodName)) hown (ow hw (i := 217) rfl) (ow hw (i := 218) rfl) (ow hw (i := 2) rfl) (ow hw (i := 219) rfl) (ow hw (i := 3) rfl) (ow hw (i := 220) rfl) (by decide) (a := ka1) (rm_a81 l Z a0 hw h0 ka1 _ _ _ _ _ _ _ _ _ _ _ ka8 ka9 ka7 ka10 ka5 _ ) (lenOf pd_0 rfl) (hb hby d27_1) (pc' := 4) rfl (argsL := []) (rest := []) rfl (by rw [hml]; rfl) (W := 0) (oLe rfl) (j := 11) rfl (by decide) (cells' := 0) rfl (slots' := 0) rfl ?_
  intro T v_ d_ q_ B
  obtain ⟨rfl, rfl⟩ := q_
  show oWin p e below Z h0 _ _ (T.setTop (mkF m 4 #[.val (.ref ka1), .val (.ref ka2)] []))
  refine W_aloadN B (hb hby d27_4) (pc' := 5) rfl rfl rfl ?_
  refine W_aloadN B (hb hby d27_5) (pc' := 6) rfl rfl rfl ?_
  refine W_getfield B hown (host := "") (Or.inl (ow hw (i := 200) rfl)) Via.refl (hb hby d27_6) (pc' := 9) rfl (j := 11) rfl (q := 10) rfl ?_
  intro T B
  refine W_aloadN B (hb hby d27_9) (pc' := 10) rfl rfl rfl ?_
  refine W_aloadN B (hb hby d27_10) (pc' := 11) rfl rfl rfl ?_
  refine W_getfield B hown (host := "") (Or.inl (ow hw (i := 198) rfl)) Via.refl (hb hby d27_11) (pc' := 14) rfl (j := 11) rfl (q := 9) rfl ?_
  intro T B
  refine W_virtual B (y := (⟨"com/example/tanglemark/tanglemark/datalog/Relation", "newest", "(Lcom/example/tanglemark/tanglemark/datalog/Relation$Chains;[II)I"⟩ : MethodName)) (z := (⟨"com/example/tanglemark/tanglemark/datalog/Relation", "newest", "(Lcom/example/tanglemark/tanglemark/datalog/Relation$Chains;[II)I"⟩ : MethodName)) hown (ow hw (i := 221) rfl) (ow hw (i := 222) rfl) (oNotFace B (ow hw (i := 224) rfl) rfl) (ow hw (i := 224) rfl) (ow hw (i := 223) rfl) (ow hw (i := 3) rfl) (ow hw (i := 225) rfl) (by decide) (a := ka1) (rm_a106 l Z a0 hw h0 ka1 ka5 ka2 _ _ _ _ ka3 ia1 ia2 ia3 ia4 ia5 ia6 ka4 ka6 _ _ ka7 _ ka8 ka9 ka10 _ _ hy0 hy1 hy2) (lenOf pd_19 rfl) (hb hby d27_14) (pc' := 17) rfl (argsL := [(.ref ka5), (.ref ka2), (.int (2 : Int32))]) (rest := []) rfl (by rw [hml]; rfl) (W := 0) (oLe rfl) (j := 11) rfl (by decide) (cells' := 0) rfl (slots' := 0) rfl ?_
  intro T v_ d_ q_ B
  obtain ⟨rfl, rfl⟩ := q_
  show oWin p e below Z h0 _ _ (T.setTop (mkF m 17 #[.val (.ref ka1), .val (.ref ka2)] [(.int (0 : Int32))]))
  refine W_retI B hret (hb hby d27_17) (by decide) ?_
  exact ⟨rfl, rfl⟩
theorem ef_rm_a108 (m : MethodId) (x0 : Addr) (x1 : Addr) : entryFrame m #[(.ref x0), (.ref x1)] 2 = mkF m 0 #[.val (.ref x0), .val (.ref x1)] [] := by first | (simp [entryFrame, mkF, argsToLocals, Value.category]; done) | rfl
set_option maxRecDepth 65536 in
set_option maxHeartbeats 40000000 in
theorem rm_a108 (l : Launch) (Z : State) (a0 : Array Value) (hw : ∀ d ∈ tables_1, d.before a0 Z = true) (h0 : Heap) {lo : Nat} (ka1 : Addr) (ka2 : Addr) (e0 : Addr × oD) (e1 : Addr × oD) (e2 : Addr × oD) (e3 : Addr × oD) (ka3 : Addr) (ia1 : Int32) (ia2 : Int32) (ia3 : Int32) (ia4 : Int32) (ia5 : Int32) (ia6 : Int32) (ka4 : Addr) (ka5 : Addr) (ka6 : Addr) (e7 : Addr × oD) (e8 : Addr × oD) (ka7 : Addr) (e10 : Addr × oD) (ka8 : Addr) (ka9 : Addr) (ka10 : Addr) (e12 : Addr × oD) (ds : oDs) (hy0 : ((oHd0.set ((oH ia1 ia2 ia3) &&& (15 : Int32)).toNatClampNeg (.int (0 : Int32))).set ((oH ia4 ia5 ia6) &&& (15 : Int32)).toNatClampNeg (.int (1 : Int32))).length.toInt32 = (16 : Int32)) (hy1 : ((oHd0.set ((oH ia1 ia2 ia3) &&& (15 : Int32)).toNatClampNeg (.int (0 : Int32))).set ((oH ia4 ia5 ia6) &&& (15 : Int32)).toNatClampNeg (.int (1 : Int32)))[((oH ia1 ia2 ia3) &&& (15 : Int32)).toNatClampNeg]? = some (.int (0 : Int32))) (hy2 : ¬ ((oH ia1 ia2 ia3) &&& (15 : Int32)) < (0 : Int32)) :
    oMet l Z h0 lo (⟨"com/example/tanglemark/tanglemark/datalog/Relation", "contains", "([I)Z"⟩ : MethodName) prog_45_method_13_code 2 (some .boolean) [] ({ frames := 4, cells := 0, slots := 0, locals := 60 } : Room) #[(.ref ka1), (.ref ka2)] (e0 :: e1 :: e2 :: e3 :: (ka3, oA .int ((oHd0.set ((oH ia1 ia2 ia3) &&& (15 : Int32)).toNatClampNeg (.int (0 : Int32))).set ((oH ia4 ia5 ia6) &&& (15 : Int32)).toNatClampNeg (.int (1 : Int32)))) :: (ka4, oA .int [o0, (.int (1 : Int32)), (.int (2 : Int32))]) :: (ka5, oO cn3 [(fk18, (.ref ka4)), (fk19, (.ref ka3)), (fk20, (.ref ka6))]) :: e7 :: e8 :: (ka7, oA .int [(.int ia1), (.int ia2), (.int ia3), (.int ia4), (.int ia5), (.int ia6), o0, o0, o0, o0, o0, o0, o0, o0, o0, o0, o0, o0, o0, o0, o0, o0, o0, o0, o0, o0, o0, o0, o0, o0, o0, o0, o0, o0, o0, o0, o0, o0, o0, o0, o0, o0, o0, o0, o0, o0, o0, o0]) :: e10 :: (ka1, oO cn0 [(fk0, (.ref ka8)), (fk1, (.ref ka9)), (fk2, (.int (3 : Int32))), (fk3, (.int (2147483639 : Int32))), (fk4, (.int (1073741824 : Int32))), (fk5, (.ref ka7)), (fk6, (.ref ka10)), (fk7, .null), (fk8, (.int (0 : Int32))), (fk9, (.int (2 : Int32))), (fk10, (.ref ka5))]) :: e12 :: (ka2, oA .int [(.int ia1), (.int ia2), (.int ia3)]) :: ds) (fun (v : Option Value) (d : oDs) => (v = some (.int (1 : Int32)) ∧ (e0 :: e1 :: e2 :: e3 :: (ka3, oA .int ((oHd0.set ((oH ia1 ia2 ia3) &&& (15 : Int32)).toNatClampNeg (.int (0 : Int32))).set ((oH ia4 ia5 ia6) &&& (15 : Int32)).toNatClampNeg (.int (1 : Int32)))) :: (ka4, oA .int [o0, (.int (1 : Int32)), (.int (2 : Int32))]) :: (ka5, oO cn3 [(fk18, (.ref ka4)), (fk19, (.ref ka3)), (fk20, (.ref ka6))]) :: e7 :: e8 :: (ka7, oA .int [(.int ia1), (.int ia2), (.int ia3), (.int ia4), (.int ia5), (.int ia6), o0, o0, o0, o0, o0, o0, o0, o0, o0, o0, o0, o0, o0, o0, o0, o0, o0, o0, o0, o0, o0, o0, o0, o0, o0, o0, o0, o0, o0, o0, o0, o0, o0, o0, o0, o0, o0, o0, o0, o0, o0, o0]) :: e10 :: (ka1, oO cn0 [(fk0, (.ref ka8)), (fk1, (.ref ka9)), (fk2, (.int (3 : Int32))), (fk3, (.int (2147483639 : Int32))), (fk4, (.int (1073741824 : Int32))), (fk5, (.ref ka7)), (fk6, (.ref ka10)), (fk7, .null), (fk8, (.int (0 : Int32))), (fk9, (.int (2 : Int32))), (fk10, (.ref ka5))]) :: e12 :: (ka2, oA .int [(.int ia1), (.int ia2), (.int ia3)]) :: ds) = d)) := by
  refine oMet.of_body (plainFor_of_name pn_9) ?_
  intro p e s m below meth c T B hby hml hown hnm hret
  refine W_entry (ef_rm_a108 m ka1 ka2) ?_
  refine W_aloadN B (hb hby d26_0) (pc' := 1) rfl rfl rfl ?_
  refine W_aloadN B (hb hby d26_1) (pc' := 2) rfl rfl rfl ?_
  refine W_virtual B (y := (⟨"com/example/tanglemark/tanglemark/datalog/Relation", "row", "([I)I"⟩ : MethodName)) (z := (⟨"com/example/tanglemark/tanglemark/datalog/Relation", "row", "([I)I"⟩ : MethodName)) hown (ow hw (i := 212) rfl) (ow hw (i := 213) rfl) (oNotFace B (ow hw (i := 215) rfl) rfl) (ow hw (i := 215) rfl) (ow hw (i := 214) rfl) (ow hw (i := 3) rfl) (ow hw (i := 216) rfl) (by decide) (a := ka1) (rm_a107 l Z a0 hw h0 ka1 ka2 _ _ _ _ ka3 ia1 ia2 ia3 ia4 ia5 ia6 ka4 ka5 ka6 _ _ ka7 _ ka8 ka9 ka10 _ _ hy0 hy1 hy2) (lenOf pd_17 rfl) (hb hby d26_2) (pc' := 5) rfl (argsL := [(.ref ka2)]) (rest := []) rfl (by rw [hml]; rfl) (W := 0) (oLe rfl) (j := 11) rfl (by decide) (cells' := 0) rfl (slots' := 0) rfl ?_
  intro T v_ d_ q_ B
  obtain ⟨rfl, rfl⟩ := q_
  show oWin p e below Z h0 _ _ (T.setTop (mkF m 5 #[.val (.ref ka1), .val (.ref ka2)] [(.int (0 : Int32))]))
  refine W_ifN B (hb hby d26_5) (pc' := 8) rfl (by decide) ?_
  refine W_iconst B (hb hby d26_8) (pc' := 9) rfl (z := (1 : Int32)) (by decide) ?_
  refine W_goto B (hb hby d26_9) (by decide) (pc' := 13) (by decide) ?_
  refine W_retN B hret (by simp) (hb hby d26_13) (by decide) ?_
  exact ⟨rfl, rfl⟩
theorem ef_rm_a109 (m : MethodId) (x0 : Addr) (x1 : Addr) : entryFrame m #[(.ref x0), (.ref x1)] 2 = mkF m 0 #[.val (.ref x0), .val (.ref x1)] [] := by first | (simp [entryFrame, mkF, argsToLocals, Value.category]; done) | rfl
set_option maxRecDepth 65536 in
set_option maxHeartbeats 40000000 in
theorem rm_a109 (l : Launch) (Z : State) (a0 : Array Value) (hw : ∀ d ∈ tables_1, d.before a0 Z = true) (h0 : Heap) {lo : Nat} (ka1 : Addr) (ka2 : Addr) (e0 : Addr × oD) (e1 : Addr × oD) (e2 : Addr × oD) (e3 : Addr × oD) (ka3 : Addr) (ia1 : Int32) (ia2 : Int32) (ia3 : Int32) (ia4 : Int32) (ia5 : Int32) (ia6 : Int32) (ka4 : Addr) (ka5 : Addr) (ka6 : Addr) (e7 : Addr × oD) (e8 : Addr × oD) (ka7 : Addr) (e10 : Addr × oD) (ka8 : Addr) (ka9 : Addr) (ka10 : Addr) (e12 : Addr × oD) (ds : oDs) (hy0 : ((oHd0.set ((oH ia1 ia2 ia3) &&& (15 : Int32)).toNatClampNeg (.int (0 : Int32))).set ((oH ia4 ia5 ia6) &&& (15 : Int32)).toNatClampNeg (.int (1 : Int32))).length.toInt32 = (16 : Int32)) (hy1 : ((oHd0.set ((oH ia1 ia2 ia3) &&& (15 : Int32)).toNatClampNeg (.int (0 : Int32))).set ((oH ia4 ia5 ia6) &&& (15 : Int32)).toNatClampNeg (.int (1 : Int32)))[((oH ia1 ia2 ia3) &&& (15 : Int32)).toNatClampNeg]? = some (.int (0 : Int32))) (hy2 : ¬ ((oH ia1 ia2 ia3) &&& (15 : Int32)) < (0 : Int32)) :
    oMet l Z h0 lo (⟨"com/example/tanglemark/tanglemark/datalog/Relation", "add", "([I)Z"⟩ : MethodName) prog_45_method_8_code 2 (some .boolean) [] ({ frames := 5, cells := 0, slots := 0, locals := 73 } : Room) #[(.ref ka1), (.ref ka2)] (e0 :: e1 :: e2 :: e3 :: (ka3, oA .int ((oHd0.set ((oH ia1 ia2 ia3) &&& (15 : Int32)).toNatClampNeg (.int (0 : Int32))).set ((oH ia4 ia5 ia6) &&& (15 : Int32)).toNatClampNeg (.int (1 : Int32)))) :: (ka4, oA .int [o0, (.int (1 : Int32)), (.int (2 : Int32))]) :: (ka5, oO cn3 [(fk18, (.ref ka4)), (fk19, (.ref ka3)), (fk20, (.ref ka6))]) :: e7 :: e8 :: (ka7, oA .int [(.int ia1), (.int ia2), (.int ia3), (.int ia4), (.int ia5), (.int ia6), o0, o0, o0, o0, o0, o0, o0, o0, o0, o0, o0, o0, o0, o0, o0, o0, o0, o0, o0, o0, o0, o0, o0, o0, o0, o0, o0, o0, o0, o0, o0, o0, o0, o0, o0, o0, o0, o0, o0, o0, o0, o0]) :: e10 :: (ka1, oO cn0 [(fk0, (.ref ka8)), (fk1, (.ref ka9)), (fk2, (.int (3 : Int32))), (fk3, (.int (2147483639 : Int32))), (fk4, (.int (1073741824 : Int32))), (fk5, (.ref ka7)), (fk6, (.ref ka10)), (fk7, .null), (fk8, (.int (0 : Int32))), (fk9, (.int (2 : Int32))), (fk10, (.ref ka5))]) :: e12 :: (ka2, oA .int [(.int ia1), (.int ia2), (.int ia3)]) :: ds) (fun (v : Option Value) (d : oDs) => (v = some (.int (0 : Int32)) ∧ (e0 :: e1 :: e2 :: e3 :: (ka3, oA .int ((oHd0.set ((oH ia1 ia2 ia3) &&& (15 : Int32)).toNatClampNeg (.int (0 : Int32))).set ((oH ia4 ia5 ia6) &&& (15 : Int32)).toNatClampNeg (.int (1 : Int32)))) :: (ka4, oA .int [o0, (.int (1 : Int32)), (.int (2 : Int32))]) :: (ka5, oO cn3 [(fk18, (.ref ka4)), (fk19, (.ref ka3)), (fk20, (.ref ka6))]) :: e7 :: e8 :: (ka7, oA .int [(.int ia1), (.int ia2), (.int ia3), (.int ia4), (.int ia5), (.int ia6), o0, o0, o0, o0, o0, o0, o0, o0, o0, o0, o0, o0, o0, o0, o0, o0, o0, o0, o0, o0, o0, o0, o0, o0, o0, o0, o0, o0, o0, o0, o0, o0, o0, o0, o0, o0, o0, o0, o0, o0, o0, o0]) :: e10 :: (ka1, oO cn0 [(fk0, (.ref ka8)), (fk1, (.ref ka9)), (fk2, (.int (3 : Int32))), (fk3, (.int (2147483639 : Int32))), (fk4, (.int (1073741824 : Int32))), (fk5, (.ref ka7)), (fk6, (.ref ka10)), (fk7, .null), (fk8, (.int (0 : Int32))), (fk9, (.int (2 : Int32))), (fk10, (.ref ka5))]) :: e12 :: (ka2, oA .int [(.int ia1), (.int ia2), (.int ia3)]) :: ds) = d)) := by
  refine oMet.of_body (plainFor_of_name pn_9) ?_
  intro p e s m below meth c T B hby hml hown hnm hret
  refine W_entry (ef_rm_a109 m ka1 ka2) ?_
  refine W_aloadN B (hb hby d25_0) (pc' := 1) rfl rfl rfl ?_
  refine W_aloadN B (hb hby d25_1) (pc' := 2) rfl rfl rfl ?_
  refine W_virtual B (y := (⟨"com/example/tanglemark/tanglemark/datalog/Relation", "contains", "([I)Z"⟩ : MethodName)) (z := (⟨"com/example/tanglemark/tanglemark/datalog/Relation", "contains", "([I)Z"⟩ : MethodName)) hown (ow hw (i := 207) rfl) (ow hw (i := 208) rfl) (oNotFace B (ow hw (i := 210) rfl) rfl) (ow hw (i := 210) rfl) (ow hw (i := 209) rfl) (ow hw (i := 3) rfl) (ow hw (i := 211) rfl) (by decide) (a := ka1) (rm_a108 l Z a0 hw h0 ka1 ka2 _ _ _ _ ka3 ia1 ia2 ia3 ia4 ia5 ia6 ka4 ka5 ka6 _ _ ka7 _ ka8 ka9 ka10 _ _ hy0 hy1 hy2) (lenOf pd_20 rfl) (hb hby d25_2) (pc' := 5) rfl (argsL := [(.ref ka2)]) (rest := []) rfl (by rw [hml]; rfl) (W := 0) (oLe rfl) (j := 11) rfl (by decide) (cells' := 0) rfl (slots' := 0) rfl ?_
  intro T v_ d_ q_ B
  obtain ⟨rfl, rfl⟩ := q_
  show oWin p e below Z h0 _ _ (T.setTop (mkF m 5 #[.val (.ref ka1), .val (.ref ka2)] [(.int (1 : Int32))]))
  refine W_ifN B (hb hby d25_5) (pc' := 8) rfl (by decide) ?_
  refine W_iconst B (hb hby d25_8) (pc' := 9) rfl (z := (0 : Int32)) (by decide) ?_
  refine W_retN B hret (by simp) (hb hby d25_9) (by decide) ?_
  exact ⟨rfl, rfl⟩
theorem ef_rm0 (m : MethodId) (x0 : Int32) (x1 : Int32) (x2 : Int32) (x3 : Int32) (x4 : Int32) (x5 : Int32) : entryFrame m #[(.int x0), (.int x1), (.int x2), (.int x3), (.int x4), (.int x5)] maxLocals = mkF m 0 #[.val (.int x0), .val (.int x1), .val (.int x2), .val (.int x3), .val (.int x4), .val (.int x5), .unset, .unset, .unset, .unset, .unset, .unset, .unset, .unset, .unset, .unset] [] := by first | (simp [entryFrame, mkF, argsToLocals, Value.category, maxLocals]; done) | rfl
theorem pn_10 : plainName "com/example/tanglemark/tanglemark/datalog/RelationHashPinLaw" = true := by first | (simp [plainName, overriddenIn]; done) | decide +kernel
set_option maxRecDepth 65536 in
set_option maxHeartbeats 40000000 in
theorem rm0 (l : Launch) (Z : State) (a0 : Array Value) (hw : ∀ d ∈ tables_1, d.before a0 Z = true) (h0 : Heap) {lo : Nat} (a1 : Int32) (a2 : Int32) (a3 : Int32) (a4 : Int32) (a5 : Int32) (a6 : Int32) (la : Addr) (de : Addr) (hla : oLam Z h0 xI 63 sgm la) (hde : oOld Z h0 de (.object "java/lang/Object") 0) (hst : Sta Z h0 "java/util/ArrayList" "DEFAULTCAPACITY_EMPTY_ELEMENTDATA" "[Ljava/lang/Object;" (.ref de)) :
    oMetW l Z h0 lo x code maxLocals ret tables_1 room_1 #[(.int a1), (.int a2), (.int a3), (.int a4), (.int a5), (.int a6)] [] (fun (v : Option Value) (_ : oDs) => v = some (.int 1)) := by
  refine oMetW.of_body (plainFor_of_name pn_10) ?_
  intro p e s m below meth c T vm_ B hS hby hml hown hnm hret
  refine W_entry (ef_rm0 m a1 a2 a3 a4 a5 a6) ?_
  have hml : c.maxLocals = 16 := hml
  refine W_iconst B (hb hby at_0) (pc' := 1) rfl (z := (3 : Int32)) (by decide) ?_
  refine W_newarray B (ow hw (i := 0) rfl) (hb hby at_1) (pc' := 3) rfl (by decide) (cap := 3) (by decide) (by decide) (cells' := 1) rfl (slots' := 3) rfl (vs := [(.int (0 : Int32)), (.int (0 : Int32)), (.int (0 : Int32))]) rfl (ty := .int) rfl ?_
  intro T b1 B
  refine W_dup B (hb hby at_3) (pc' := 4) rfl rfl ?_
  refine W_iconst B (hb hby at_4) (pc' := 5) rfl (z := (0 : Int32)) (by decide) ?_
  refine W_iloadN B (hb hby at_5) (pc' := 6) rfl rfl ?_
  refine W_iastore B (hb hby at_6) (pc' := 7) rfl (i := 0) rfl (by decide) (oLt rfl) (ds' := [(b1, oA .int [(.int a1), o0, o0])]) rfl ?_
  intro T B
  refine W_dup B (hb hby at_7) (pc' := 8) rfl rfl ?_
  refine W_iconst B (hb hby at_8) (pc' := 9) rfl (z := (1 : Int32)) (by decide) ?_
  refine W_iloadN B (hb hby at_9) (pc' := 10) rfl rfl ?_
  refine W_iastore B (hb hby at_10) (pc' := 11) rfl (i := 0) rfl (by decide) (oLt rfl) (ds' := [(b1, oA .int [(.int a1), (.int a2), o0])]) rfl ?_
  intro T B
  refine W_dup B (hb hby at_11) (pc' := 12) rfl rfl ?_
  refine W_iconst B (hb hby at_12) (pc' := 13) rfl (z := (2 : Int32)) (by decide) ?_
  refine W_iloadN B (hb hby at_13) (pc' := 14) rfl rfl ?_
  refine W_iastore B (hb hby at_14) (pc' := 15) rfl (i := 0) rfl (by decide) (oLt rfl) (ds' := [(b1, oA .int [(.int a1), (.int a2), (.int a3)])]) rfl ?_
  intro T B
  refine W_astore B (hb hby at_15) (pc' := 17) rfl rfl (ls' := #[.val (.int a1), .val (.int a2), .val (.int a3), .val (.int a4), .val (.int a5), .val (.int a6), .val (.ref b1), .unset, .unset, .unset, .unset, .unset, .unset, .unset, .unset, .unset]) rfl ?_
  refine W_iconst B (hb hby at_17) (pc' := 18) rfl (z := (3 : Int32)) (by decide) ?_
  refine W_newarray B (ow hw (i := 0) rfl) (hb hby at_18) (pc' := 20) rfl (by decide) (cap := 3) (by decide) (by decide) (cells' := 2) rfl (slots' := 6) rfl (vs := [(.int (0 : Int32)), (.int (0 : Int32)), (.int (0 : Int32))]) rfl (ty := .int) rfl ?_
  intro T b2 B
  refine W_dup B (hb hby at_20) (pc' := 21) rfl rfl ?_
  refine W_iconst B (hb hby at_21) (pc' := 22) rfl (z := (0 : Int32)) (by decide) ?_
  refine W_iloadN B (hb hby at_22) (pc' := 23) rfl rfl ?_
  refine W_iastore B (hb hby at_23) (pc' := 24) rfl (i := 0) rfl (by decide) (oLt rfl) (ds' := [(b2, oA .int [(.int a4), o0, o0]), (b1, oA .int [(.int a1), (.int a2), (.int a3)])]) rfl ?_
  intro T B
  refine W_dup B (hb hby at_24) (pc' := 25) rfl rfl ?_
  refine W_iconst B (hb hby at_25) (pc' := 26) rfl (z := (1 : Int32)) (by decide) ?_
  refine W_iload B (hb hby at_26) (pc' := 28) rfl rfl ?_
  refine W_iastore B (hb hby at_28) (pc' := 29) rfl (i := 0) rfl (by decide) (oLt rfl) (ds' := [(b2, oA .int [(.int a4), (.int a5), o0]), (b1, oA .int [(.int a1), (.int a2), (.int a3)])]) rfl ?_
  intro T B
  refine W_dup B (hb hby at_29) (pc' := 30) rfl rfl ?_
  refine W_iconst B (hb hby at_30) (pc' := 31) rfl (z := (2 : Int32)) (by decide) ?_
  refine W_iload B (hb hby at_31) (pc' := 33) rfl rfl ?_
  refine W_iastore B (hb hby at_33) (pc' := 34) rfl (i := 0) rfl (by decide) (oLt rfl) (ds' := [(b2, oA .int [(.int a4), (.int a5), (.int a6)]), (b1, oA .int [(.int a1), (.int a2), (.int a3)])]) rfl ?_
  intro T B
  refine W_astore B (hb hby at_34) (pc' := 36) rfl rfl (ls' := #[.val (.int a1), .val (.int a2), .val (.int a3), .val (.int a4), .val (.int a5), .val (.int a6), .val (.ref b1), .val (.ref b2), .unset, .unset, .unset, .unset, .unset, .unset, .unset, .unset]) rfl ?_
  refine W_iconst B (hb hby at_36) (pc' := 37) rfl (z := (3 : Int32)) (by decide) ?_
  refine W_newarray B (ow hw (i := 0) rfl) (hb hby at_37) (pc' := 39) rfl (by decide) (cap := 3) (by decide) (by decide) (cells' := 3) rfl (slots' := 9) rfl (vs := [(.int (0 : Int32)), (.int (0 : Int32)), (.int (0 : Int32))]) rfl (ty := .int) rfl ?_
  intro T b3 B
  refine W_dup B (hb hby at_39) (pc' := 40) rfl rfl ?_
  refine W_iconst B (hb hby at_40) (pc' := 41) rfl (z := (0 : Int32)) (by decide) ?_
  refine W_iloadN B (hb hby at_41) (pc' := 42) rfl rfl ?_
  refine W_iastore B (hb hby at_42) (pc' := 43) rfl (i := 0) rfl (by decide) (oLt rfl) (ds' := [(b3, oA .int [(.int a1), o0, o0]), (b2, oA .int [(.int a4), (.int a5), (.int a6)]), (b1, oA .int [(.int a1), (.int a2), (.int a3)])]) rfl ?_
  intro T B
  refine W_dup B (hb hby at_43) (pc' := 44) rfl rfl ?_
  refine W_iconst B (hb hby at_44) (pc' := 45) rfl (z := (1 : Int32)) (by decide) ?_
  refine W_iloadN B (hb hby at_45) (pc' := 46) rfl rfl ?_
  refine W_iastore B (hb hby at_46) (pc' := 47) rfl (i := 0) rfl (by decide) (oLt rfl) (ds' := [(b3, oA .int [(.int a1), (.int a2), o0]), (b2, oA .int [(.int a4), (.int a5), (.int a6)]), (b1, oA .int [(.int a1), (.int a2), (.int a3)])]) rfl ?_
  intro T B
  refine W_dup B (hb hby at_47) (pc' := 48) rfl rfl ?_
  refine W_iconst B (hb hby at_48) (pc' := 49) rfl (z := (2 : Int32)) (by decide) ?_
  refine W_iloadN B (hb hby at_49) (pc' := 50) rfl rfl ?_
  refine W_iastore B (hb hby at_50) (pc' := 51) rfl (i := 0) rfl (by decide) (oLt rfl) (ds' := [(b3, oA .int [(.int a1), (.int a2), (.int a3)]), (b2, oA .int [(.int a4), (.int a5), (.int a6)]), (b1, oA .int [(.int a1), (.int a2), (.int a3)])]) rfl ?_
  intro T B
  refine W_astore B (hb hby at_51) (pc' := 53) rfl rfl (ls' := #[.val (.int a1), .val (.int a2), .val (.int a3), .val (.int a4), .val (.int a5), .val (.int a6), .val (.ref b1), .val (.ref b2), .val (.ref b3), .unset, .unset, .unset, .unset, .unset, .unset, .unset]) rfl ?_
  refine W_iconst B (hb hby at_53) (pc' := 54) rfl (z := (3 : Int32)) (by decide) ?_
  refine W_newarray B (ow hw (i := 0) rfl) (hb hby at_54) (pc' := 56) rfl (by decide) (cap := 3) (by decide) (by decide) (cells' := 4) rfl (slots' := 12) rfl (vs := [(.int (0 : Int32)), (.int (0 : Int32)), (.int (0 : Int32))]) rfl (ty := .int) rfl ?_
  intro T b4 B
  refine W_dup B (hb hby at_56) (pc' := 57) rfl rfl ?_
  refine W_iconst B (hb hby at_57) (pc' := 58) rfl (z := (0 : Int32)) (by decide) ?_
  refine W_iloadN B (hb hby at_58) (pc' := 59) rfl rfl ?_
  refine W_iastore B (hb hby at_59) (pc' := 60) rfl (i := 0) rfl (by decide) (oLt rfl) (ds' := [(b4, oA .int [(.int a4), o0, o0]), (b3, oA .int [(.int a1), (.int a2), (.int a3)]), (b2, oA .int [(.int a4), (.int a5), (.int a6)]), (b1, oA .int [(.int a1), (.int a2), (.int a3)])]) rfl ?_
  intro T B
  refine W_dup B (hb hby at_60) (pc' := 61) rfl rfl ?_
  refine W_iconst B (hb hby at_61) (pc' := 62) rfl (z := (1 : Int32)) (by decide) ?_
  refine W_iload B (hb hby at_62) (pc' := 64) rfl rfl ?_
  refine W_iastore B (hb hby at_64) (pc' := 65) rfl (i := 0) rfl (by decide) (oLt rfl) (ds' := [(b4, oA .int [(.int a4), (.int a5), o0]), (b3, oA .int [(.int a1), (.int a2), (.int a3)]), (b2, oA .int [(.int a4), (.int a5), (.int a6)]), (b1, oA .int [(.int a1), (.int a2), (.int a3)])]) rfl ?_
  intro T B
  refine W_dup B (hb hby at_65) (pc' := 66) rfl rfl ?_
  refine W_iconst B (hb hby at_66) (pc' := 67) rfl (z := (2 : Int32)) (by decide) ?_
  refine W_iload B (hb hby at_67) (pc' := 69) rfl rfl ?_
  refine W_iastore B (hb hby at_69) (pc' := 70) rfl (i := 0) rfl (by decide) (oLt rfl) (ds' := [(b4, oA .int [(.int a4), (.int a5), (.int a6)]), (b3, oA .int [(.int a1), (.int a2), (.int a3)]), (b2, oA .int [(.int a4), (.int a5), (.int a6)]), (b1, oA .int [(.int a1), (.int a2), (.int a3)])]) rfl ?_
  intro T B
  refine W_astore B (hb hby at_70) (pc' := 72) rfl rfl (ls' := #[.val (.int a1), .val (.int a2), .val (.int a3), .val (.int a4), .val (.int a5), .val (.int a6), .val (.ref b1), .val (.ref b2), .val (.ref b3), .val (.ref b4), .unset, .unset, .unset, .unset, .unset, .unset]) rfl ?_
  refine oJoin B (fun z5 : Int32 => (z5 = 1 ∧ a1 = a4 ∧ a2 = a5 ∧ a3 = a6) ∨ (z5 = 0 ∧ ¬ (a1 = a4 ∧ a2 = a5 ∧ a3 = a6))) (fun z5 => (mkF m 94 #[.val (.int a1), .val (.int a2), .val (.int a3), .val (.int a4), .val (.int a5), .val (.int a6), .val (.ref b1), .val (.ref b2), .val (.ref b3), .val (.ref b4), .unset, .unset, .unset, .unset, .unset, .unset] [(.int z5)])) ?_ ?_
  · intro kJ
    refine W_iloadN B (hb hby at_72) (pc' := 73) rfl rfl ?_
    refine W_iloadN B (hb hby at_73) (pc' := 74) rfl rfl ?_
    refine W_icmp_ne B (hb hby at_74) (by decide) (pt := 93) (by decide) (pc' := 77) rfl (fun (c6 : ¬ a1 = a4) => ?_) (fun (c6 : a1 = a4) => ?_)
    · refine W_iconst B (hb hby at_93) (pc' := 94) rfl (z := (0 : Int32)) (by decide) ?_
      exact kJ _ _ (Or.inr ⟨rfl, fun q => c6 q.1⟩) B
    refine W_iloadN B (hb hby at_77) (pc' := 78) rfl rfl ?_
    refine W_iload B (hb hby at_78) (pc' := 80) rfl rfl ?_
    refine W_icmp_ne B (hb hby at_80) (by decide) (pt := 93) (by decide) (pc' := 83) rfl (fun (c7 : ¬ a2 = a5) => ?_) (fun (c7 : a2 = a5) => ?_)
    · refine W_iconst B (hb hby at_93) (pc' := 94) rfl (z := (0 : Int32)) (by decide) ?_
      exact kJ _ _ (Or.inr ⟨rfl, fun q => c7 q.2.1⟩) B
    refine W_iloadN B (hb hby at_83) (pc' := 84) rfl rfl ?_
    refine W_iload B (hb hby at_84) (pc' := 86) rfl rfl ?_
    refine W_icmp_ne B (hb hby at_86) (by decide) (pt := 93) (by decide) (pc' := 89) rfl (fun (c8 : ¬ a3 = a6) => ?_) (fun (c8 : a3 = a6) => ?_)
    · refine W_iconst B (hb hby at_93) (pc' := 94) rfl (z := (0 : Int32)) (by decide) ?_
      exact kJ _ _ (Or.inr ⟨rfl, fun q => c8 q.2.2⟩) B
    refine W_iconst B (hb hby at_89) (pc' := 90) rfl (z := (1 : Int32)) (by decide) ?_
    refine W_goto B (hb hby at_90) (by decide) (pc' := 94) (by decide) ?_
    exact kJ _ _ (Or.inl ⟨rfl, c6, c7, c8⟩) B
  intro z5 T hz5 B
  refine W_istore B (hb hby at_94) (pc' := 96) rfl (v := z5) rfl (ls' := #[.val (.int a1), .val (.int a2), .val (.int a3), .val (.int a4), .val (.int a5), .val (.int a6), .val (.ref b1), .val (.ref b2), .val (.ref b3), .val (.ref b4), .val (.int z5), .unset, .unset, .unset, .unset, .unset]) rfl ?_
  refine W_new B hown (ow hw (i := 1) rfl) (ow hw (i := 2) rfl) (ow hw (i := 3) rfl) (hb hby at_96) (pc' := 99) rfl (by decide) (cells' := 5) rfl (slots' := 25) rfl (fs := [(fk0, .null), (fk1, .null), (fk2, (.int (0 : Int32))), (fk3, (.int (0 : Int32))), (fk4, (.int (0 : Int32))), (fk5, .null), (fk6, .null), (fk7, .null), (fk8, (.int (0 : Int32))), (fk9, (.int (0 : Int32))), (fk10, .null)]) (oAll_cons ⟨Or.inr (ow hw (i := 47) rfl), (.object "java/util/List"), by decide, rfl⟩ (oAll_cons ⟨Or.inr (ow hw (i := 49) rfl), (.object "java/lang/String"), by decide, rfl⟩ (oAll_cons ⟨Or.inr (ow hw (i := 51) rfl), .int, by decide, rfl⟩ (oAll_cons ⟨Or.inr (ow hw (i := 53) rfl), .int, by decide, rfl⟩ (oAll_cons ⟨Or.inr (ow hw (i := 64) rfl), .int, by decide, rfl⟩ (oAll_cons ⟨Or.inl (ow hw (i := 70) rfl), (.array .int), by decide, rfl⟩ (oAll_cons ⟨Or.inr (ow hw (i := 72) rfl), (.array .int), by decide, rfl⟩ (oAll_cons ⟨Or.inl (ow hw (i := 133) rfl), (.object "com/example/tanglemark/tanglemark/datalog/FactoredRows"), by decide, rfl⟩ (oAll_cons ⟨Or.inl (ow hw (i := 135) rfl), .boolean, by decide, rfl⟩ (oAll_cons ⟨Or.inl (ow hw (i := 199) rfl), .int, by decide, rfl⟩ (oAll_cons ⟨Or.inl (ow hw (i := 201) rfl), (.object "com/example/tanglemark/tanglemark/datalog/Relation$Chains"), by decide, rfl⟩ oAll_nil))))))))))) (by decide) ?_
  intro T b9 B
  refine W_dup B (hb hby at_99) (pc' := 100) rfl rfl ?_
  refine W_ldcStr B hS (n := 4) hown (ow hw (i := 4) rfl) (own_strAtoms hw) (hb hby at_100) (pc' := 102) rfl (by decide) (by decide) (cells' := 7) rfl (slots' := 33) rfl ?_
  intro T sa10 vm_ lo B hS hown
  refine W_iconst B (hb hby at_102) (pc' := 103) rfl (z := (3 : Int32)) (by decide) ?_
  refine W_init B (y := (⟨"com/example/tanglemark/tanglemark/datalog/Relation", "<init>", "(Ljava/lang/String;I)V"⟩ : MethodName)) hown rfl (ow hw (i := 12) rfl) (ow hw (i := 13) rfl) (ow hw (i := 3) rfl) (ow hw (i := 14) rfl) (by decide) (a := b9) (rm_a22 l Z a0 hw h0 b9 sa10 _ de la hst hla hde) (lenOf pd_16 rfl) (hb hby at_103) (pc' := 106) rfl (argsL := [(.ref sa10), (.int (3 : Int32))]) (rest := [(.ref b9)]) rfl (by rw [hml]; rfl) (W := 1) (oLe rfl) (by decide) (cells' := 16) rfl (slots' := 139) rfl ?_
  intro T v_ d_ q_ B
  obtain ⟨b119, b120, b121, b122, b123, b124, b125, b126, b127, rfl, rfl⟩ := q_
  show oWin p e below Z h0 _ _ (T.setTop (mkF m 106 #[.val (.int a1), .val (.int a2), .val (.int a3), .val (.int a4), .val (.int a5), .val (.int a6), .val (.ref b1), .val (.ref b2), .val (.ref b3), .val (.ref b4), .val (.int z5), .unset, .unset, .unset, .unset, .unset] [(.ref b9)]))
  refine W_astore B (hb hby at_106) (pc' := 108) rfl rfl (ls' := #[.val (.int a1), .val (.int a2), .val (.int a3), .val (.int a4), .val (.int a5), .val (.int a6), .val (.ref b1), .val (.ref b2), .val (.ref b3), .val (.ref b4), .val (.int z5), .val (.ref b9), .unset, .unset, .unset, .unset]) rfl ?_
  rcases hz5 with ⟨rfl, rfl, rfl, rfl⟩ | ⟨rfl, hne⟩
  · have u128 : ¬ ((oH a1 a2 a3) &&& (15 : Int32)) < (0 : Int32) := own_i0 _
    have u129 : oHd0[((oH a1 a2 a3) &&& (15 : Int32)).toNatClampNeg]? = some (.int (-1 : Int32)) := own_L0 _
    have u130 : ((oH a1 a2 a3) &&& (15 : Int32)).toNatClampNeg < oHd0.length := own_il _
    have u131 : oHd0.length.toInt32 = (16 : Int32) := rfl
    have u132 : (oHd0.set ((oH a1 a2 a3) &&& (15 : Int32)).toNatClampNeg (.int (0 : Int32))).length = 16 := List.length_set
    have u133 : (oHd0.set ((oH a1 a2 a3) &&& (15 : Int32)).toNatClampNeg (.int (0 : Int32))).length.toInt32 = (16 : Int32) := by rw [List.length_set]; rfl
    have u134 : (oHd0.set ((oH a1 a2 a3) &&& (15 : Int32)).toNatClampNeg (.int (0 : Int32)))[((oH a1 a2 a3) &&& (15 : Int32)).toNatClampNeg]? = some (.int (0 : Int32)) := own_hit rfl _ _
    refine W_aload B (hb hby at_108) (pc' := 110) rfl rfl rfl ?_
    refine W_aload B (hb hby at_110) (pc' := 112) rfl rfl rfl ?_
    refine W_virtual B (y := (⟨"com/example/tanglemark/tanglemark/datalog/Relation", "add", "([I)Z"⟩ : MethodName)) (z := (⟨"com/example/tanglemark/tanglemark/datalog/Relation", "add", "([I)Z"⟩ : MethodName)) hown (ow hw (i := 202) rfl) (ow hw (i := 203) rfl) (oNotFace B (ow hw (i := 205) rfl) rfl) (ow hw (i := 205) rfl) (ow hw (i := 204) rfl) (ow hw (i := 3) rfl) (ow hw (i := 206) rfl) (by decide) (a := b9) (rm_a43 l Z a0 hw h0 b9 b1 b119 b120 b121 b122 b123 _ _ b127 b125 sa10 b126 _ _ _ a1 a2 a3 _ u130 u131 u129 u128) (lenOf pd_20 rfl) (hb hby at_112) (pc' := 115) rfl (argsL := [(.ref b1)]) (rest := []) rfl (by rw [hml]; rfl) (W := 0) (oLe rfl) (j := 9) rfl (by decide) (cells' := 17) rfl (slots' := 143) rfl ?_
    intro T v_ d_ q_ B
    obtain ⟨b143, rfl, rfl⟩ := q_
    show oWin p e below Z h0 _ _ (T.setTop (mkF m 115 #[.val (.int a1), .val (.int a2), .val (.int a3), .val (.int a1), .val (.int a2), .val (.int a3), .val (.ref b1), .val (.ref b2), .val (.ref b3), .val (.ref b4), .val (.int (1 : Int32)), .val (.ref b9), .unset, .unset, .unset, .unset] [(.int (1 : Int32))]))
    refine W_istore B (hb hby at_115) (pc' := 117) rfl (v := (1 : Int32)) rfl (ls' := #[.val (.int a1), .val (.int a2), .val (.int a3), .val (.int a1), .val (.int a2), .val (.int a3), .val (.ref b1), .val (.ref b2), .val (.ref b3), .val (.ref b4), .val (.int (1 : Int32)), .val (.ref b9), .val (.int (1 : Int32)), .unset, .unset, .unset]) rfl ?_
    refine W_aload B (hb hby at_117) (pc' := 119) rfl rfl rfl ?_
    refine W_aload B (hb hby at_119) (pc' := 121) rfl rfl rfl ?_
    refine W_virtual B (y := (⟨"com/example/tanglemark/tanglemark/datalog/Relation", "add", "([I)Z"⟩ : MethodName)) (z := (⟨"com/example/tanglemark/tanglemark/datalog/Relation", "add", "([I)Z"⟩ : MethodName)) hown (ow hw (i := 202) rfl) (ow hw (i := 203) rfl) (oNotFace B (ow hw (i := 205) rfl) rfl) (ow hw (i := 205) rfl) (ow hw (i := 204) rfl) (ow hw (i := 3) rfl) (ow hw (i := 206) rfl) (by decide) (a := b9) (rm_a50 l Z a0 hw h0 b9 b2 _ _ _ b122 a1 a2 a3 b123 b120 b121 _ _ b127 _ b125 sa10 b126 _ _ _ u133 u134 u128) (lenOf pd_20 rfl) (hb hby at_121) (pc' := 124) rfl (argsL := [(.ref b2)]) (rest := []) rfl (by rw [hml]; rfl) (W := 0) (oLe rfl) (j := 10) rfl (by decide) (cells' := 17) rfl (slots' := 143) rfl ?_
    intro T v_ d_ q_ B
    obtain ⟨rfl, rfl⟩ := q_
    show oWin p e below Z h0 _ _ (T.setTop (mkF m 124 #[.val (.int a1), .val (.int a2), .val (.int a3), .val (.int a1), .val (.int a2), .val (.int a3), .val (.ref b1), .val (.ref b2), .val (.ref b3), .val (.ref b4), .val (.int (1 : Int32)), .val (.ref b9), .val (.int (1 : Int32)), .unset, .unset, .unset] [(.int (0 : Int32))]))
    refine W_istore B (hb hby at_124) (pc' := 126) rfl (v := (0 : Int32)) rfl (ls' := #[.val (.int a1), .val (.int a2), .val (.int a3), .val (.int a1), .val (.int a2), .val (.int a3), .val (.ref b1), .val (.ref b2), .val (.ref b3), .val (.ref b4), .val (.int (1 : Int32)), .val (.ref b9), .val (.int (1 : Int32)), .val (.int (0 : Int32)), .unset, .unset]) rfl ?_
    refine W_aload B (hb hby at_126) (pc' := 128) rfl rfl rfl ?_
    refine W_aload B (hb hby at_128) (pc' := 130) rfl rfl rfl ?_
    refine W_virtual B (y := (⟨"com/example/tanglemark/tanglemark/datalog/Relation", "add", "([I)Z"⟩ : MethodName)) (z := (⟨"com/example/tanglemark/tanglemark/datalog/Relation", "add", "([I)Z"⟩ : MethodName)) hown (ow hw (i := 202) rfl) (ow hw (i := 203) rfl) (oNotFace B (ow hw (i := 205) rfl) rfl) (ow hw (i := 205) rfl) (ow hw (i := 204) rfl) (ow hw (i := 3) rfl) (ow hw (i := 206) rfl) (by decide) (a := b9) (rm_a56 l Z a0 hw h0 b9 b3 _ _ _ b122 a1 a2 a3 b123 b120 b121 _ _ b127 _ b125 sa10 b126 _ _ u133 u134 u128) (lenOf pd_20 rfl) (hb hby at_130) (pc' := 133) rfl (argsL := [(.ref b3)]) (rest := []) rfl (by rw [hml]; rfl) (W := 0) (oLe rfl) (j := 10) rfl (by decide) (cells' := 17) rfl (slots' := 143) rfl ?_
    intro T v_ d_ q_ B
    obtain ⟨rfl, rfl⟩ := q_
    show oWin p e below Z h0 _ _ (T.setTop (mkF m 133 #[.val (.int a1), .val (.int a2), .val (.int a3), .val (.int a1), .val (.int a2), .val (.int a3), .val (.ref b1), .val (.ref b2), .val (.ref b3), .val (.ref b4), .val (.int (1 : Int32)), .val (.ref b9), .val (.int (1 : Int32)), .val (.int (0 : Int32)), .unset, .unset] [(.int (0 : Int32))]))
    refine W_istore B (hb hby at_133) (pc' := 135) rfl (v := (0 : Int32)) rfl (ls' := #[.val (.int a1), .val (.int a2), .val (.int a3), .val (.int a1), .val (.int a2), .val (.int a3), .val (.ref b1), .val (.ref b2), .val (.ref b3), .val (.ref b4), .val (.int (1 : Int32)), .val (.ref b9), .val (.int (1 : Int32)), .val (.int (0 : Int32)), .val (.int (0 : Int32)), .unset]) rfl ?_
    refine W_aload B (hb hby at_135) (pc' := 137) rfl rfl rfl ?_
    refine W_aload B (hb hby at_137) (pc' := 139) rfl rfl rfl ?_
    refine W_virtual B (y := (⟨"com/example/tanglemark/tanglemark/datalog/Relation", "add", "([I)Z"⟩ : MethodName)) (z := (⟨"com/example/tanglemark/tanglemark/datalog/Relation", "add", "([I)Z"⟩ : MethodName)) hown (ow hw (i := 202) rfl) (ow hw (i := 203) rfl) (oNotFace B (ow hw (i := 205) rfl) rfl) (ow hw (i := 205) rfl) (ow hw (i := 204) rfl) (ow hw (i := 3) rfl) (ow hw (i := 206) rfl) (by decide) (a := b9) (rm_a62 l Z a0 hw h0 b9 b4 _ _ _ b122 a1 a2 a3 b123 b120 b121 _ _ b127 _ b125 sa10 b126 _ u133 u134 u128) (lenOf pd_20 rfl) (hb hby at_139) (pc' := 142) rfl (argsL := [(.ref b4)]) (rest := []) rfl (by rw [hml]; rfl) (W := 0) (oLe rfl) (j := 10) rfl (by decide) (cells' := 17) rfl (slots' := 143) rfl ?_
    intro T v_ d_ q_ B
    obtain ⟨rfl, rfl⟩ := q_
    show oWin p e below Z h0 _ _ (T.setTop (mkF m 142 #[.val (.int a1), .val (.int a2), .val (.int a3), .val (.int a1), .val (.int a2), .val (.int a3), .val (.ref b1), .val (.ref b2), .val (.ref b3), .val (.ref b4), .val (.int (1 : Int32)), .val (.ref b9), .val (.int (1 : Int32)), .val (.int (0 : Int32)), .val (.int (0 : Int32)), .unset] [(.int (0 : Int32))]))
    refine W_istore B (hb hby at_142) (pc' := 144) rfl (v := (0 : Int32)) rfl (ls' := #[.val (.int a1), .val (.int a2), .val (.int a3), .val (.int a1), .val (.int a2), .val (.int a3), .val (.ref b1), .val (.ref b2), .val (.ref b3), .val (.ref b4), .val (.int (1 : Int32)), .val (.ref b9), .val (.int (1 : Int32)), .val (.int (0 : Int32)), .val (.int (0 : Int32)), .val (.int (0 : Int32))]) rfl ?_
    refine W_iload B (hb hby at_144) (pc' := 146) rfl rfl ?_
    refine W_ifN B (hb hby at_146) (pc' := 149) rfl (by decide) ?_
    refine W_iload B (hb hby at_149) (pc' := 151) rfl rfl ?_
    refine W_iload B (hb hby at_151) (pc' := 153) rfl rfl ?_
    refine W_ifY B (hb hby at_153) (by decide) (pc' := 160) (by decide) (by decide) ?_
    refine W_iconst B (hb hby at_160) (pc' := 161) rfl (z := (0 : Int32)) (by decide) ?_
    refine W_icmpN B (hb hby at_161) (pc' := 164) rfl (by decide) ?_
    refine W_iload B (hb hby at_164) (pc' := 166) rfl rfl ?_
    refine W_ifN B (hb hby at_166) (pc' := 169) rfl (by decide) ?_
    refine W_iload B (hb hby at_169) (pc' := 171) rfl rfl ?_
    refine W_ifN B (hb hby at_171) (pc' := 174) rfl (by decide) ?_
    refine W_aload B (hb hby at_174) (pc' := 176) rfl rfl rfl ?_
    refine W_virtual B (y := (⟨"com/example/tanglemark/tanglemark/datalog/Relation", "size", "()I"⟩ : MethodName)) (z := (⟨"com/example/tanglemark/tanglemark/datalog/Relation", "size", "()I"⟩ : MethodName)) hown (ow hw (i := 284) rfl) (ow hw (i := 285) rfl) (oNotFace B (ow hw (i := 287) rfl) rfl) (ow hw (i := 287) rfl) (ow hw (i := 286) rfl) (ow hw (i := 3) rfl) (ow hw (i := 288) rfl) (by decide) (a := b9) (rm_a63 l Z a0 hw h0 b9 _ _ _ _ _ _ _ _ _ _ b125 sa10 b127 b126 b120 _ ) (lenOf pd_25 rfl) (hb hby at_176) (pc' := 179) rfl (argsL := []) (rest := []) rfl (by rw [hml]; rfl) (W := 0) (oLe rfl) (j := 10) rfl (by decide) (cells' := 17) rfl (slots' := 143) rfl ?_
    intro T v_ d_ q_ B
    obtain ⟨rfl, rfl⟩ := q_
    show oWin p e below Z h0 _ _ (T.setTop (mkF m 179 #[.val (.int a1), .val (.int a2), .val (.int a3), .val (.int a1), .val (.int a2), .val (.int a3), .val (.ref b1), .val (.ref b2), .val (.ref b3), .val (.ref b4), .val (.int (1 : Int32)), .val (.ref b9), .val (.int (1 : Int32)), .val (.int (0 : Int32)), .val (.int (0 : Int32)), .val (.int (0 : Int32))] [(.int (1 : Int32))]))
    refine W_iload B (hb hby at_179) (pc' := 181) rfl rfl ?_
    refine W_ifN B (hb hby at_181) (pc' := 184) rfl (by decide) ?_
    refine W_iconst B (hb hby at_184) (pc' := 185) rfl (z := (1 : Int32)) (by decide) ?_
    refine W_goto B (hb hby at_185) (by decide) (pc' := 189) (by decide) ?_
    refine W_icmpN B (hb hby at_189) (pc' := 192) rfl (by decide) ?_
    refine W_iconst B (hb hby at_192) (pc' := 193) rfl (z := (1 : Int32)) (by decide) ?_
    refine W_goto B (hb hby at_193) (by decide) (pc' := 197) (by decide) ?_
    refine W_retNW B hS hret (by simp) (hb hby at_197) (by decide) ?_
    rfl
  have u144 : ¬ ((oH a1 a2 a3) &&& (15 : Int32)) < (0 : Int32) := own_i0 _
  have u145 : ¬ ((oH a4 a5 a6) &&& (15 : Int32)) < (0 : Int32) := own_i0 _
  have u146 : oHd0[((oH a1 a2 a3) &&& (15 : Int32)).toNatClampNeg]? = some (.int (-1 : Int32)) := own_L0 _
  have u147 : ((oH a1 a2 a3) &&& (15 : Int32)).toNatClampNeg < oHd0.length := own_il _
  have u148 : oHd0.length.toInt32 = (16 : Int32) := rfl
  have u149 : (oHd0.set ((oH a1 a2 a3) &&& (15 : Int32)).toNatClampNeg (.int (0 : Int32))).length = 16 := List.length_set
  have u150 : (oHd0.set ((oH a1 a2 a3) &&& (15 : Int32)).toNatClampNeg (.int (0 : Int32))).length.toInt32 = (16 : Int32) := by rw [List.length_set]; rfl
  have u151 : (oHd0.set ((oH a1 a2 a3) &&& (15 : Int32)).toNatClampNeg (.int (0 : Int32)))[((oH a1 a2 a3) &&& (15 : Int32)).toNatClampNeg]? = some (.int (0 : Int32)) := own_hit rfl _ _
  have u152 : ¬ (a4 = a1 ∧ a5 = a2 ∧ a6 = a3) := fun q => hne ⟨q.1.symm, q.2.1.symm, q.2.2.symm⟩
  have u153 : ((oH a4 a5 a6) &&& (15 : Int32)).toNatClampNeg < (oHd0.set ((oH a1 a2 a3) &&& (15 : Int32)).toNatClampNeg (.int (0 : Int32))).length := by rw [List.length_set]; exact own_il _
  have u154 : ((oHd0.set ((oH a1 a2 a3) &&& (15 : Int32)).toNatClampNeg (.int (0 : Int32))).set ((oH a4 a5 a6) &&& (15 : Int32)).toNatClampNeg (.int (1 : Int32))).length.toInt32 = (16 : Int32) := by rw [List.length_set, List.length_set]; rfl
  have u155 : ((oHd0.set ((oH a1 a2 a3) &&& (15 : Int32)).toNatClampNeg (.int (0 : Int32))).set ((oH a4 a5 a6) &&& (15 : Int32)).toNatClampNeg (.int (1 : Int32)))[((oH a4 a5 a6) &&& (15 : Int32)).toNatClampNeg]? = some (.int (1 : Int32)) := own_hit (by rw [List.length_set]; rfl) _ _
  by_cases hbk : ((oH a1 a2 a3) &&& (15 : Int32)) = ((oH a4 a5 a6) &&& (15 : Int32))
  · have u156 : (oHd0.set ((oH a1 a2 a3) &&& (15 : Int32)).toNatClampNeg (.int (0 : Int32)))[((oH a4 a5 a6) &&& (15 : Int32)).toNatClampNeg]? = some (.int (0 : Int32)) := by rw [← hbk]; exact own_hit rfl _ _
    have u157 : ((oHd0.set ((oH a1 a2 a3) &&& (15 : Int32)).toNatClampNeg (.int (0 : Int32))).set ((oH a4 a5 a6) &&& (15 : Int32)).toNatClampNeg (.int (1 : Int32)))[((oH a1 a2 a3) &&& (15 : Int32)).toNatClampNeg]? = some (.int (1 : Int32)) := by rw [hbk]; exact own_hit (by rw [List.length_set]; rfl) _ _
    refine W_aload B (hb hby at_108) (pc' := 110) rfl rfl rfl ?_
    refine W_aload B (hb hby at_110) (pc' := 112) rfl rfl rfl ?_
    refine W_virtual B (y := (⟨"com/example/tanglemark/tanglemark/datalog/Relation", "add", "([I)Z"⟩ : MethodName)) (z := (⟨"com/example/tanglemark/tanglemark/datalog/Relation", "add", "([I)Z"⟩ : MethodName)) hown (ow hw (i := 202) rfl) (ow hw (i := 203) rfl) (oNotFace B (ow hw (i := 205) rfl) rfl) (ow hw (i := 205) rfl) (ow hw (i := 204) rfl) (ow hw (i := 3) rfl) (ow hw (i := 206) rfl) (by decide) (a := b9) (rm_a43 l Z a0 hw h0 b9 b1 b119 b120 b121 b122 b123 _ _ b127 b125 sa10 b126 _ _ _ a1 a2 a3 _ u147 u148 u146 u144) (lenOf pd_20 rfl) (hb hby at_112) (pc' := 115) rfl (argsL := [(.ref b1)]) (rest := []) rfl (by rw [hml]; rfl) (W := 0) (oLe rfl) (j := 9) rfl (by decide) (cells' := 17) rfl (slots' := 143) rfl ?_
    intro T v_ d_ q_ B
    obtain ⟨b161, rfl, rfl⟩ := q_
    show oWin p e below Z h0 _ _ (T.setTop (mkF m 115 #[.val (.int a1), .val (.int a2), .val (.int a3), .val (.int a4), .val (.int a5), .val (.int a6), .val (.ref b1), .val (.ref b2), .val (.ref b3), .val (.ref b4), .val (.int (0 : Int32)), .val (.ref b9), .unset, .unset, .unset, .unset] [(.int (1 : Int32))]))
    refine W_istore B (hb hby at_115) (pc' := 117) rfl (v := (1 : Int32)) rfl (ls' := #[.val (.int a1), .val (.int a2), .val (.int a3), .val (.int a4), .val (.int a5), .val (.int a6), .val (.ref b1), .val (.ref b2), .val (.ref b3), .val (.ref b4), .val (.int (0 : Int32)), .val (.ref b9), .val (.int (1 : Int32)), .unset, .unset, .unset]) rfl ?_
    refine W_aload B (hb hby at_117) (pc' := 119) rfl rfl rfl ?_
    refine W_aload B (hb hby at_119) (pc' := 121) rfl rfl rfl ?_
    refine W_virtual B (y := (⟨"com/example/tanglemark/tanglemark/datalog/Relation", "add", "([I)Z"⟩ : MethodName)) (z := (⟨"com/example/tanglemark/tanglemark/datalog/Relation", "add", "([I)Z"⟩ : MethodName)) hown (ow hw (i := 202) rfl) (ow hw (i := 203) rfl) (oNotFace B (ow hw (i := 205) rfl) rfl) (ow hw (i := 205) rfl) (ow hw (i := 204) rfl) (ow hw (i := 3) rfl) (ow hw (i := 206) rfl) (by decide) (a := b9) (rm_a80 l Z a0 hw h0 b9 b2 _ b119 b120 b121 b122 a1 a2 a3 b123 _ _ b127 b125 sa10 b126 _ _ a4 a5 a6 _ u153 u150 u156 u145 hne) (lenOf pd_20 rfl) (hb hby at_121) (pc' := 124) rfl (argsL := [(.ref b2)]) (rest := []) rfl (by rw [hml]; rfl) (W := 0) (oLe rfl) (j := 10) rfl (by decide) (cells' := 18) rfl (slots' := 147) rfl ?_
    intro T v_ d_ q_ B
    obtain ⟨b181, rfl, rfl⟩ := q_
    show oWin p e below Z h0 _ _ (T.setTop (mkF m 124 #[.val (.int a1), .val (.int a2), .val (.int a3), .val (.int a4), .val (.int a5), .val (.int a6), .val (.ref b1), .val (.ref b2), .val (.ref b3), .val (.ref b4), .val (.int (0 : Int32)), .val (.ref b9), .val (.int (1 : Int32)), .unset, .unset, .unset] [(.int (1 : Int32))]))
    refine W_istore B (hb hby at_124) (pc' := 126) rfl (v := (1 : Int32)) rfl (ls' := #[.val (.int a1), .val (.int a2), .val (.int a3), .val (.int a4), .val (.int a5), .val (.int a6), .val (.ref b1), .val (.ref b2), .val (.ref b3), .val (.ref b4), .val (.int (0 : Int32)), .val (.ref b9), .val (.int (1 : Int32)), .val (.int (1 : Int32)), .unset, .unset]) rfl ?_
    refine W_aload B (hb hby at_126) (pc' := 128) rfl rfl rfl ?_
    refine W_aload B (hb hby at_128) (pc' := 130) rfl rfl rfl ?_
    refine W_virtual B (y := (⟨"com/example/tanglemark/tanglemark/datalog/Relation", "add", "([I)Z"⟩ : MethodName)) (z := (⟨"com/example/tanglemark/tanglemark/datalog/Relation", "add", "([I)Z"⟩ : MethodName)) hown (ow hw (i := 202) rfl) (ow hw (i := 203) rfl) (oNotFace B (ow hw (i := 205) rfl) rfl) (ow hw (i := 205) rfl) (ow hw (i := 204) rfl) (ow hw (i := 3) rfl) (ow hw (i := 206) rfl) (by decide) (a := b9) (rm_a89 l Z a0 hw h0 b9 b3 _ _ _ b121 b122 a1 a2 a3 a4 a5 a6 b123 b120 _ _ b127 _ b125 sa10 b126 _ _ u154 u157 u144 u152) (lenOf pd_20 rfl) (hb hby at_130) (pc' := 133) rfl (argsL := [(.ref b3)]) (rest := []) rfl (by rw [hml]; rfl) (W := 0) (oLe rfl) (j := 11) rfl (by decide) (cells' := 18) rfl (slots' := 147) rfl ?_
    intro T v_ d_ q_ B
    obtain ⟨rfl, rfl⟩ := q_
    show oWin p e below Z h0 _ _ (T.setTop (mkF m 133 #[.val (.int a1), .val (.int a2), .val (.int a3), .val (.int a4), .val (.int a5), .val (.int a6), .val (.ref b1), .val (.ref b2), .val (.ref b3), .val (.ref b4), .val (.int (0 : Int32)), .val (.ref b9), .val (.int (1 : Int32)), .val (.int (1 : Int32)), .unset, .unset] [(.int (0 : Int32))]))
    refine W_istore B (hb hby at_133) (pc' := 135) rfl (v := (0 : Int32)) rfl (ls' := #[.val (.int a1), .val (.int a2), .val (.int a3), .val (.int a4), .val (.int a5), .val (.int a6), .val (.ref b1), .val (.ref b2), .val (.ref b3), .val (.ref b4), .val (.int (0 : Int32)), .val (.ref b9), .val (.int (1 : Int32)), .val (.int (1 : Int32)), .val (.int (0 : Int32)), .unset]) rfl ?_
    refine W_aload B (hb hby at_135) (pc' := 137) rfl rfl rfl ?_
    refine W_aload B (hb hby at_137) (pc' := 139) rfl rfl rfl ?_
    refine W_virtual B (y := (⟨"com/example/tanglemark/tanglemark/datalog/Relation", "add", "([I)Z"⟩ : MethodName)) (z := (⟨"com/example/tanglemark/tanglemark/datalog/Relation", "add", "([I)Z"⟩ : MethodName)) hown (ow hw (i := 202) rfl) (ow hw (i := 203) rfl) (oNotFace B (ow hw (i := 205) rfl) rfl) (ow hw (i := 205) rfl) (ow hw (i := 204) rfl) (ow hw (i := 3) rfl) (ow hw (i := 206) rfl) (by decide) (a := b9) (rm_a95 l Z a0 hw h0 b9 b4 _ _ _ _ b122 a1 a2 a3 a4 a5 a6 b123 b120 b121 _ _ b127 _ b125 sa10 b126 _ u154 u155 u145) (lenOf pd_20 rfl) (hb hby at_139) (pc' := 142) rfl (argsL := [(.ref b4)]) (rest := []) rfl (by rw [hml]; rfl) (W := 0) (oLe rfl) (j := 11) rfl (by decide) (cells' := 18) rfl (slots' := 147) rfl ?_
    intro T v_ d_ q_ B
    obtain ⟨rfl, rfl⟩ := q_
    show oWin p e below Z h0 _ _ (T.setTop (mkF m 142 #[.val (.int a1), .val (.int a2), .val (.int a3), .val (.int a4), .val (.int a5), .val (.int a6), .val (.ref b1), .val (.ref b2), .val (.ref b3), .val (.ref b4), .val (.int (0 : Int32)), .val (.ref b9), .val (.int (1 : Int32)), .val (.int (1 : Int32)), .val (.int (0 : Int32)), .unset] [(.int (0 : Int32))]))
    refine W_istore B (hb hby at_142) (pc' := 144) rfl (v := (0 : Int32)) rfl (ls' := #[.val (.int a1), .val (.int a2), .val (.int a3), .val (.int a4), .val (.int a5), .val (.int a6), .val (.ref b1), .val (.ref b2), .val (.ref b3), .val (.ref b4), .val (.int (0 : Int32)), .val (.ref b9), .val (.int (1 : Int32)), .val (.int (1 : Int32)), .val (.int (0 : Int32)), .val (.int (0 : Int32))]) rfl ?_
    refine W_iload B (hb hby at_144) (pc' := 146) rfl rfl ?_
    refine W_ifN B (hb hby at_146) (pc' := 149) rfl (by decide) ?_
    refine W_iload B (hb hby at_149) (pc' := 151) rfl rfl ?_
    refine W_iload B (hb hby at_151) (pc' := 153) rfl rfl ?_
    refine W_ifN B (hb hby at_153) (pc' := 156) rfl (by decide) ?_
    refine W_iconst B (hb hby at_156) (pc' := 157) rfl (z := (1 : Int32)) (by decide) ?_
    refine W_goto B (hb hby at_157) (by decide) (pc' := 161) (by decide) ?_
    refine W_icmpN B (hb hby at_161) (pc' := 164) rfl (by decide) ?_
    refine W_iload B (hb hby at_164) (pc' := 166) rfl rfl ?_
    refine W_ifN B (hb hby at_166) (pc' := 169) rfl (by decide) ?_
    refine W_iload B (hb hby at_169) (pc' := 171) rfl rfl ?_
    refine W_ifN B (hb hby at_171) (pc' := 174) rfl (by decide) ?_
    refine W_aload B (hb hby at_174) (pc' := 176) rfl rfl rfl ?_
    refine W_virtual B (y := (⟨"com/example/tanglemark/tanglemark/datalog/Relation", "size", "()I"⟩ : MethodName)) (z := (⟨"com/example/tanglemark/tanglemark/datalog/Relation", "size", "()I"⟩ : MethodName)) hown (ow hw (i := 284) rfl) (ow hw (i := 285) rfl) (oNotFace B (ow hw (i := 287) rfl) rfl) (ow hw (i := 287) rfl) (ow hw (i := 286) rfl) (ow hw (i := 3) rfl) (ow hw (i := 288) rfl) (by decide) (a := b9) (rm_a96 l Z a0 hw h0 b9 _ _ _ _ _ _ _ _ _ _ _ b125 sa10 b127 b126 b120 _ ) (lenOf pd_25 rfl) (hb hby at_176) (pc' := 179) rfl (argsL := []) (rest := []) rfl (by rw [hml]; rfl) (W := 0) (oLe rfl) (j := 11) rfl (by decide) (cells' := 18) rfl (slots' := 147) rfl ?_
    intro T v_ d_ q_ B
    obtain ⟨rfl, rfl⟩ := q_
    show oWin p e below Z h0 _ _ (T.setTop (mkF m 179 #[.val (.int a1), .val (.int a2), .val (.int a3), .val (.int a4), .val (.int a5), .val (.int a6), .val (.ref b1), .val (.ref b2), .val (.ref b3), .val (.ref b4), .val (.int (0 : Int32)), .val (.ref b9), .val (.int (1 : Int32)), .val (.int (1 : Int32)), .val (.int (0 : Int32)), .val (.int (0 : Int32))] [(.int (2 : Int32))]))
    refine W_iload B (hb hby at_179) (pc' := 181) rfl rfl ?_
    refine W_ifY B (hb hby at_181) (by decide) (pc' := 188) (by decide) (by decide) ?_
    refine W_iconst B (hb hby at_188) (pc' := 189) rfl (z := (2 : Int32)) (by decide) ?_
    refine W_icmpN B (hb hby at_189) (pc' := 192) rfl (by decide) ?_
    refine W_iconst B (hb hby at_192) (pc' := 193) rfl (z := (1 : Int32)) (by decide) ?_
    refine W_goto B (hb hby at_193) (by decide) (pc' := 197) (by decide) ?_
    refine W_retNW B hS hret (by simp) (hb hby at_197) (by decide) ?_
    rfl
  have u190 : (oHd0.set ((oH a1 a2 a3) &&& (15 : Int32)).toNatClampNeg (.int (0 : Int32)))[((oH a4 a5 a6) &&& (15 : Int32)).toNatClampNeg]? = some (.int (-1 : Int32)) := (own_miss hbk _).trans (own_L0 _)
  have u191 : ((oHd0.set ((oH a1 a2 a3) &&& (15 : Int32)).toNatClampNeg (.int (0 : Int32))).set ((oH a4 a5 a6) &&& (15 : Int32)).toNatClampNeg (.int (1 : Int32)))[((oH a1 a2 a3) &&& (15 : Int32)).toNatClampNeg]? = some (.int (0 : Int32)) := (own_miss (fun q => hbk q.symm) _).trans (own_hit rfl _ _)
  refine W_aload B (hb hby at_108) (pc' := 110) rfl rfl rfl ?_
  refine W_aload B (hb hby at_110) (pc' := 112) rfl rfl rfl ?_
  refine W_virtual B (y := (⟨"com/example/tanglemark/tanglemark/datalog/Relation", "add", "([I)Z"⟩ : MethodName)) (z := (⟨"com/example/tanglemark/tanglemark/datalog/Relation", "add", "([I)Z"⟩ : MethodName)) hown (ow hw (i := 202) rfl) (ow hw (i := 203) rfl) (oNotFace B (ow hw (i := 205) rfl) rfl) (ow hw (i := 205) rfl) (ow hw (i := 204) rfl) (ow hw (i := 3) rfl) (ow hw (i := 206) rfl) (by decide) (a := b9) (rm_a43 l Z a0 hw h0 b9 b1 b119 b120 b121 b122 b123 _ _ b127 b125 sa10 b126 _ _ _ a1 a2 a3 _ u147 u148 u146 u144) (lenOf pd_20 rfl) (hb hby at_112) (pc' := 115) rfl (argsL := [(.ref b1)]) (rest := []) rfl (by rw [hml]; rfl) (W := 0) (oLe rfl) (j := 9) rfl (by decide) (cells' := 17) rfl (slots' := 143) rfl ?_
  intro T v_ d_ q_ B
  obtain ⟨b195, rfl, rfl⟩ := q_
  show oWin p e below Z h0 _ _ (T.setTop (mkF m 115 #[.val (.int a1), .val (.int a2), .val (.int a3), .val (.int a4), .val (.int a5), .val (.int a6), .val (.ref b1), .val (.ref b2), .val (.ref b3), .val (.ref b4), .val (.int (0 : Int32)), .val (.ref b9), .unset, .unset, .unset, .unset] [(.int (1 : Int32))]))
  refine W_istore B (hb hby at_115) (pc' := 117) rfl (v := (1 : Int32)) rfl (ls' := #[.val (.int a1), .val (.int a2), .val (.int a3), .val (.int a4), .val (.int a5), .val (.int a6), .val (.ref b1), .val (.ref b2), .val (.ref b3), .val (.ref b4), .val (.int (0 : Int32)), .val (.ref b9), .val (.int (1 : Int32)), .unset, .unset, .unset]) rfl ?_
  refine W_aload B (hb hby at_117) (pc' := 119) rfl rfl rfl ?_
  refine W_aload B (hb hby at_119) (pc' := 121) rfl rfl rfl ?_
  refine W_virtual B (y := (⟨"com/example/tanglemark/tanglemark/datalog/Relation", "add", "([I)Z"⟩ : MethodName)) (z := (⟨"com/example/tanglemark/tanglemark/datalog/Relation", "add", "([I)Z"⟩ : MethodName)) hown (ow hw (i := 202) rfl) (ow hw (i := 203) rfl) (oNotFace B (ow hw (i := 205) rfl) rfl) (ow hw (i := 205) rfl) (ow hw (i := 204) rfl) (ow hw (i := 3) rfl) (ow hw (i := 206) rfl) (by decide) (a := b9) (rm_a104 l Z a0 hw h0 b9 b2 _ b119 b120 b121 b122 a1 a2 a3 b123 _ _ b127 b125 sa10 b126 _ _ a4 a5 a6 _ u153 u150 u190 u145) (lenOf pd_20 rfl) (hb hby at_121) (pc' := 124) rfl (argsL := [(.ref b2)]) (rest := []) rfl (by rw [hml]; rfl) (W := 0) (oLe rfl) (j := 10) rfl (by decide) (cells' := 18) rfl (slots' := 147) rfl ?_
  intro T v_ d_ q_ B
  obtain ⟨b203, rfl, rfl⟩ := q_
  show oWin p e below Z h0 _ _ (T.setTop (mkF m 124 #[.val (.int a1), .val (.int a2), .val (.int a3), .val (.int a4), .val (.int a5), .val (.int a6), .val (.ref b1), .val (.ref b2), .val (.ref b3), .val (.ref b4), .val (.int (0 : Int32)), .val (.ref b9), .val (.int (1 : Int32)), .unset, .unset, .unset] [(.int (1 : Int32))]))
  refine W_istore B (hb hby at_124) (pc' := 126) rfl (v := (1 : Int32)) rfl (ls' := #[.val (.int a1), .val (.int a2), .val (.int a3), .val (.int a4), .val (.int a5), .val (.int a6), .val (.ref b1), .val (.ref b2), .val (.ref b3), .val (.ref b4), .val (.int (0 : Int32)), .val (.ref b9), .val (.int (1 : Int32)), .val (.int (1 : Int32)), .unset, .unset]) rfl ?_
  refine W_aload B (hb hby at_126) (pc' := 128) rfl rfl rfl ?_
  refine W_aload B (hb hby at_128) (pc' := 130) rfl rfl rfl ?_
  refine W_virtual B (y := (⟨"com/example/tanglemark/tanglemark/datalog/Relation", "add", "([I)Z"⟩ : MethodName)) (z := (⟨"com/example/tanglemark/tanglemark/datalog/Relation", "add", "([I)Z"⟩ : MethodName)) hown (ow hw (i := 202) rfl) (ow hw (i := 203) rfl) (oNotFace B (ow hw (i := 205) rfl) rfl) (ow hw (i := 205) rfl) (ow hw (i := 204) rfl) (ow hw (i := 3) rfl) (ow hw (i := 206) rfl) (by decide) (a := b9) (rm_a109 l Z a0 hw h0 b9 b3 _ _ _ _ b122 a1 a2 a3 a4 a5 a6 b123 b120 b121 _ _ b127 _ b125 sa10 b126 _ _ u154 u191 u144) (lenOf pd_20 rfl) (hb hby at_130) (pc' := 133) rfl (argsL := [(.ref b3)]) (rest := []) rfl (by rw [hml]; rfl) (W := 0) (oLe rfl) (j := 11) rfl (by decide) (cells' := 18) rfl (slots' := 147) rfl ?_
  intro T v_ d_ q_ B
  obtain ⟨rfl, rfl⟩ := q_
  show oWin p e below Z h0 _ _ (T.setTop (mkF m 133 #[.val (.int a1), .val (.int a2), .val (.int a3), .val (.int a4), .val (.int a5), .val (.int a6), .val (.ref b1), .val (.ref b2), .val (.ref b3), .val (.ref b4), .val (.int (0 : Int32)), .val (.ref b9), .val (.int (1 : Int32)), .val (.int (1 : Int32)), .unset, .unset] [(.int (0 : Int32))]))
  refine W_istore B (hb hby at_133) (pc' := 135) rfl (v := (0 : Int32)) rfl (ls' := #[.val (.int a1), .val (.int a2), .val (.int a3), .val (.int a4), .val (.int a5), .val (.int a6), .val (.ref b1), .val (.ref b2), .val (.ref b3), .val (.ref b4), .val (.int (0 : Int32)), .val (.ref b9), .val (.int (1 : Int32)), .val (.int (1 : Int32)), .val (.int (0 : Int32)), .unset]) rfl ?_
  refine W_aload B (hb hby at_135) (pc' := 137) rfl rfl rfl ?_
  refine W_aload B (hb hby at_137) (pc' := 139) rfl rfl rfl ?_
  refine W_virtual B (y := (⟨"com/example/tanglemark/tanglemark/datalog/Relation", "add", "([I)Z"⟩ : MethodName)) (z := (⟨"com/example/tanglemark/tanglemark/datalog/Relation", "add", "([I)Z"⟩ : MethodName)) hown (ow hw (i := 202) rfl) (ow hw (i := 203) rfl) (oNotFace B (ow hw (i := 205) rfl) rfl) (ow hw (i := 205) rfl) (ow hw (i := 204) rfl) (ow hw (i := 3) rfl) (ow hw (i := 206) rfl) (by decide) (a := b9) (rm_a95 l Z a0 hw h0 b9 b4 _ _ _ _ b122 a1 a2 a3 a4 a5 a6 b123 b120 b121 _ _ b127 _ b125 sa10 b126 _ u154 u155 u145) (lenOf pd_20 rfl) (hb hby at_139) (pc' := 142) rfl (argsL := [(.ref b4)]) (rest := []) rfl (by rw [hml]; rfl) (W := 0) (oLe rfl) (j := 11) rfl (by decide) (cells' := 18) rfl (slots' := 147) rfl ?_
  intro T v_ d_ q_ B
  obtain ⟨rfl, rfl⟩ := q_
  show oWin p e below Z h0 _ _ (T.setTop (mkF m 142 #[.val (.int a1), .val (.int a2), .val (.int a3), .val (.int a4), .val (.int a5), .val (.int a6), .val (.ref b1), .val (.ref b2), .val (.ref b3), .val (.ref b4), .val (.int (0 : Int32)), .val (.ref b9), .val (.int (1 : Int32)), .val (.int (1 : Int32)), .val (.int (0 : Int32)), .unset] [(.int (0 : Int32))]))
  refine W_istore B (hb hby at_142) (pc' := 144) rfl (v := (0 : Int32)) rfl (ls' := #[.val (.int a1), .val (.int a2), .val (.int a3), .val (.int a4), .val (.int a5), .val (.int a6), .val (.ref b1), .val (.ref b2), .val (.ref b3), .val (.ref b4), .val (.int (0 : Int32)), .val (.ref b9), .val (.int (1 : Int32)), .val (.int (1 : Int32)), .val (.int (0 : Int32)), .val (.int (0 : Int32))]) rfl ?_
  refine W_iload B (hb hby at_144) (pc' := 146) rfl rfl ?_
  refine W_ifN B (hb hby at_146) (pc' := 149) rfl (by decide) ?_
  refine W_iload B (hb hby at_149) (pc' := 151) rfl rfl ?_
  refine W_iload B (hb hby at_151) (pc' := 153) rfl rfl ?_
  refine W_ifN B (hb hby at_153) (pc' := 156) rfl (by decide) ?_
  refine W_iconst B (hb hby at_156) (pc' := 157) rfl (z := (1 : Int32)) (by decide) ?_
  refine W_goto B (hb hby at_157) (by decide) (pc' := 161) (by decide) ?_
  refine W_icmpN B (hb hby at_161) (pc' := 164) rfl (by decide) ?_
  refine W_iload B (hb hby at_164) (pc' := 166) rfl rfl ?_
  refine W_ifN B (hb hby at_166) (pc' := 169) rfl (by decide) ?_
  refine W_iload B (hb hby at_169) (pc' := 171) rfl rfl ?_
  refine W_ifN B (hb hby at_171) (pc' := 174) rfl (by decide) ?_
  refine W_aload B (hb hby at_174) (pc' := 176) rfl rfl rfl ?_
  refine W_virtual B (y := (⟨"com/example/tanglemark/tanglemark/datalog/Relation", "size", "()I"⟩ : MethodName)) (z := (⟨"com/example/tanglemark/tanglemark/datalog/Relation", "size", "()I"⟩ : MethodName)) hown (ow hw (i := 284) rfl) (ow hw (i := 285) rfl) (oNotFace B (ow hw (i := 287) rfl) rfl) (ow hw (i := 287) rfl) (ow hw (i := 286) rfl) (ow hw (i := 3) rfl) (ow hw (i := 288) rfl) (by decide) (a := b9) (rm_a96 l Z a0 hw h0 b9 _ _ _ _ _ _ _ _ _ _ _ b125 sa10 b127 b126 b120 _ ) (lenOf pd_25 rfl) (hb hby at_176) (pc' := 179) rfl (argsL := []) (rest := []) rfl (by rw [hml]; rfl) (W := 0) (oLe rfl) (j := 11) rfl (by decide) (cells' := 18) rfl (slots' := 147) rfl ?_
  intro T v_ d_ q_ B
  obtain ⟨rfl, rfl⟩ := q_
  show oWin p e below Z h0 _ _ (T.setTop (mkF m 179 #[.val (.int a1), .val (.int a2), .val (.int a3), .val (.int a4), .val (.int a5), .val (.int a6), .val (.ref b1), .val (.ref b2), .val (.ref b3), .val (.ref b4), .val (.int (0 : Int32)), .val (.ref b9), .val (.int (1 : Int32)), .val (.int (1 : Int32)), .val (.int (0 : Int32)), .val (.int (0 : Int32))] [(.int (2 : Int32))]))
  refine W_iload B (hb hby at_179) (pc' := 181) rfl rfl ?_
  refine W_ifY B (hb hby at_181) (by decide) (pc' := 188) (by decide) (by decide) ?_
  refine W_iconst B (hb hby at_188) (pc' := 189) rfl (z := (2 : Int32)) (by decide) ?_
  refine W_icmpN B (hb hby at_189) (pc' := 192) rfl (by decide) ?_
  refine W_iconst B (hb hby at_192) (pc' := 193) rfl (z := (1 : Int32)) (by decide) ?_
  refine W_goto B (hb hby at_193) (by decide) (pc' := 197) (by decide) ?_
  refine W_retNW B hS hret (by simp) (hb hby at_197) (by decide) ?_
  rfl
theorem own_eqint {args : Array Value} {first s : State} {o : Option Outcome} {idx : List Nat} {t : Jvm.Term} {n : Int32} (h : (Jvm.Cond.eq t (.int n)).value args first o s idx = some true) : t.eval args first o idx s = some (.int n) := by
  obtain ⟨x, y, h1, h2, h3, h4⟩ := cmp_v (Or.inl h)
  cases h2
  obtain ⟨z, rfl⟩ := h4
  simp [Cond.value, h1, Term.eval] at h
  rw [h1, h]
theorem own_old {args : Array Value} {s : State} {t : Jvm.Term} {ty : FieldType} {a : Addr} (ev : t.eval args s none [] s = some (.ref a)) (h1 : (Jvm.Cond.arrayOf t ty).value args s none s [] = some true) (h2 : (Jvm.Term.length t).eval args s none [] s = some (.int 0)) : oOld s s.heap a ty 0 := by
  obtain ⟨c, A⟩ := Arr.start ev h1
  refine ⟨c, A, ?_⟩
  have ea : s.arrayAt? a = some c := Arr.fin (Vm.Alike.refl _) A
  simp only [Jvm.Term.eval, ev, Option.bind_eq_bind, Option.bind_some, ea] at h2
  by_cases hn : c.slots.size < 2147483648
  · rw [if_pos hn] at h2
    have q : c.slots.size.toInt32 = 0 := Value.int.inj (Option.some.inj h2)
    have q2 : c.slots.size.toInt32.toInt = (c.slots.size : Int) := Int32.toInt_ofNat_of_lt hn
    rw [q] at q2
    have q3 : (0 : Int32).toInt = 0 := rfl
    omega
  · rw [if_neg hn] at h2; cases h2
set_option maxRecDepth 65536 in
set_option maxHeartbeats 40000000 in
theorem comes_1 {Post : Tables → Env → Array Value → State → Outcome → State → Prop} (hpost : ∀ tb e args s v u, (limb_1_1.after args s (.returned v) u = true ∧ limb_1_2.after args s (.returned v) u = true ∧ True) → ReturnedEndW s (.returned v) u (Jvm.fieldLocs frame_1_writes args s ++ Jvm.arrayLocs frame_1_arrays args s ++ Jvm.staticLocs frame_1_statics s) 48 1408 → Post tb e args s (.returned v) u) :
    ArmFor flags0 classFile x code maxLocals ret World_1 tables_1 room_1 Calls_1 rest_1 Pre_1 Post := by
  intro l hfl _ _ p e ha hc hk s m args below hf hA hF happ hP
  obtain ⟨hcalls, hrest, hpre⟩ := hP
  obtain ⟨-, -, -, hnamed, -, -, -, hat⟩ := (Spec.applies_iff hf).mp happ
  obtain ⟨hg, hn⟩ := and_e (Cond.before_iff.mp (show (Jvm.Cond.and given_1 narrow_1).before args s = true from hpre))
  obtain ⟨g1, g2⟩ := and_e hg
  obtain ⟨g3, g4⟩ := and_e g2
  obtain ⟨g5, g6⟩ := and_e g4
  obtain ⟨g7, g8⟩ := and_e g6
  obtain ⟨g9, g10⟩ := and_e g8
  obtain ⟨g11, g12⟩ := and_e g10
  obtain ⟨w0, w1, w2, w3, w4, w5, rfl⟩ : ∃ w0 w1 w2 w3 w4 w5 : Value, args = #[w0, w1, w2, w3, w4, w5] := by
    have hs : args.size = 6 := by simpa [Cond.value, given_1] using g1
    obtain ⟨L⟩ := args
    match L, hs with
    | [w0, w1, w2, w3, w4, w5], _ => exact ⟨w0, w1, w2, w3, w4, w5, rfl⟩
  have hw := fun d (hd : d ∈ tables_1) => atoms_spec (ws := Jvm.Cond.code x code maxLocals ret :: tables_1) hat d (List.mem_cons_of_mem _ hd)
  have hfit : Fit s := fun {y c} hc i hi => by
    obtain ⟨ha, rfl⟩ := Array.getElem?_eq_some_iff.mp hc
    have q := List.all_eq_true.mp ((Array.all_eq_true_iff_forall_mem.mp hF) _ (Array.getElem_mem ha)) i (List.mem_range.mpr hi)
    simpa [Array.getElem?_eq_getElem hi] using q
  obtain ⟨i0, ei0⟩ := is_v g3
  obtain rfl : w0 = (.int i0) := Option.some.inj ei0
  obtain ⟨i1, ei1⟩ := is_v g5
  obtain rfl : w1 = (.int i1) := Option.some.inj ei1
  obtain ⟨i2, ei2⟩ := is_v g7
  obtain rfl : w2 = (.int i2) := Option.some.inj ei2
  obtain ⟨i3, ei3⟩ := is_v g9
  obtain rfl : w3 = (.int i3) := Option.some.inj ei3
  obtain ⟨i4, ei4⟩ := is_v g11
  obtain rfl : w4 = (.int i4) := Option.some.inj ei4
  obtain ⟨i5, ei5⟩ := is_v g12
  obtain rfl : w5 = (.int i5) := Option.some.inj ei5
  obtain ⟨hsets, hown0⟩ := atoms_of _ (rest_1_c_eq ▸ (show rest_1_c.before _ s = true from hrest))
  have r6 := Cond.before_iff.mp (hsets _ (List.mem_of_getElem? (i := 6) rfl))
  have r8 := own_eqint (Cond.before_iff.mp (hsets _ (List.mem_of_getElem? (i := 8) rfl)))
  obtain ⟨de, ev⟩ := arr_v r6
  have hde := own_old ev r6 r8
  have hst := Sta.start ev (Or.inr ⟨(ow hw (i := 24) rfl), hsets _ (List.mem_of_getElem? (i := 2) rfl)⟩)
  obtain ⟨la, hla⟩ := oLam.of (hw _ (List.mem_of_getElem? (i := 73) rfl)) rfl
  obtain ⟨n, o, h1, h2, h3, _, L, rfl, ⟨N, lo', ds', -, rfl⟩, hq⟩ := rm0 l s _ hw s.heap i0 i1 i2 i3 i4 i5 la de hla hde hst s.heap (oHP.nil s s.heap) p e ha hc hk s m _ below hf ((Spec.applies_iff_loose hf).mp happ).1 ⟨rfl, State.Warmed39.refl s, rfl⟩ trivial
  refine ⟨n, _, h1, h2, h3, hpost _ _ _ _ _ _ ⟨Cond.after_iff.mpr rfl, Cond.after_iff.mpr (eq_i res_at (Term.int_eval (1)) rfl), trivial⟩ ⟨hq.1, hq.2.1, hq.2.2.1, (hq.2.2.2.sift fun y hy => Or.inr (N y hy)).mono (by decide) (by decide)⟩⟩
theorem main_1_1 : Claimed_1_1 := comes_1 fun _ _ _ _ _ _ h hF => ⟨h.1, hF⟩
theorem main_1_2 : Claimed_1_2 := comes_1 fun _ _ _ _ _ _ h hF => ⟨h.2.1, hF⟩
end Jvm.Pilot.@@N@@
namespace Jvm.Pilot.@@N@@
open Jvm Jvm.ClassFile Sem Op Lib Jvm.Free Jvm.Stand Jvm.Pilot.@@N@@.Jvm.D
/-! MADE BY PROGRAM (witnessworld.py) out of the Statement's table words and the real class files: 35 classes; the members and pool entries that the words name. The judged class is class 1, her method 1. -/
namespace start1
open Jvm.ClassFile
def u (s : String) : CpInfo := .utf8 (stringToUtf16 s)
/-- a pool by its gaps: so many unusable entries, then the entry; so many at the end -/
def gap : Nat → List CpInfo → List CpInfo
  | 0, r => r
  | n + 1, r => .unusable :: gap n r
def poolList (es : List (Nat × CpInfo)) (last : Nat) : List CpInfo := es.foldr (fun e r => gap e.1 (e.2 :: r)) (gap last [])
def pool (es : List (Nat × CpInfo)) (last : Nat) : Array CpInfo := ⟨poolList es last⟩
def fileOf (pool : Array CpInfo) (this : Nat) (attrs : Array Attribute := #[]) (ms : Array MethodInfo := #[]) (fl : Nat := 33) (sup : Nat := 0) (ifs : Array Nat := #[]) (fds : Array FieldInfo := #[]) : ClassFile where
  minorVersion := 0
  majorVersion := 65
  constantPool := pool
  accessFlags := fl
  thisClass := this
  superClass := sup
  interfaces := ifs
  fields := fds
  methods := ms
  attributes := attrs
def plain (name : String) (sup : Option ClassId) : Class where
  name := name
  kind := .ordinary
  loader := none
  accessFlags := 33
  super := sup
  interfaces := #[]
  cf := none
  fields := #[]
  methods := #[]
  instanceTypes := #[]
  staticTypes := #[]
  resolved := #[]
  callSites := []
  init := .initialized
  statics := none
  mirror := none

def pool0 : Array CpInfo := pool [(5, u "<init>"), (0, u "()V"), (1, .class_ 10), (1, u "java/lang/Object"), (85, u "clone"), (0, u "()Ljava/lang/Object;")] 26

def k0c0 : Code := { maxStack := 0, maxLocals := 1, code := object_method_1_code, exceptionTable := #[], attributes := #[] }
def k0m0 : Method := { name := "<init>", desc := "()V", sig := { parameters := [], returnType := none }, accessFlags := 1, code := some k0c0 }
def k0m1 : Method := { name := "clone", desc := "()Ljava/lang/Object;", sig := { parameters := [], returnType := some (.object "java/lang/Object") }, accessFlags := 260, code := none }
/-- java/lang/Object -/
def k0 : Class := { plain "java/lang/Object" none with
  accessFlags := 33
  interfaces := #[]
  cf := some (fileOf pool0 8 #[] #[{ accessFlags := 1, nameIndex := 5, descriptorIndex := 6, attributes := #[] }, { accessFlags := 260, nameIndex := 96, descriptorIndex := 97, attributes := #[] }] 33 0 #[] #[])
  fields := #[]
  methods := #[k0m0, k0m1]
  instanceTypes := #[]
  staticTypes := #[]
  resolved := Array.replicate 124 none
  statics := none }

def pool1 : Array CpInfo := pool [(2, .class_ 4), (1, u "java/lang/Object"), (0, u "<init>"), (0, u "()V"), (0, .class_ 8), (0, u "com/example/tanglemark/tanglemark/datalog/Relation"), (0, .string 10), (0, u "r"), (0, .methodref 7 12), (0, .nameAndType 5 13), (0, u "(Ljava/lang/String;I)V"), (0, .methodref 7 15), (0, .nameAndType 16 17), (0, u "add"), (0, u "([I)Z"), (0, .methodref 7 19), (0, .nameAndType 20 21), (0, u "size"), (0, u "()I"), (0, .class_ 23), (0, u "com/example/tanglemark/tanglemark/datalog/RelationHashPinLaw"), (2, u "law"), (0, u "(IIIIII)Z")] 5

def k1m0 : Method := { name := "<init>", desc := "()V", sig := { parameters := [], returnType := none }, accessFlags := 1, code := none }
def k1c1 : Code := { maxStack := 4, maxLocals := 16, code := code, exceptionTable := #[], attributes := #[] }
def k1m1 : Method := { name := "law", desc := "(IIIIII)Z", sig := { parameters := [.int, .int, .int, .int, .int, .int], returnType := some .boolean }, accessFlags := 9, code := some k1c1 }
/-- com/example/tanglemark/tanglemark/datalog/RelationHashPinLaw -/
def k1 : Class := { plain "com/example/tanglemark/tanglemark/datalog/RelationHashPinLaw" (some 0) with
  accessFlags := 49
  interfaces := #[]
  cf := some (fileOf pool1 22 #[] #[{ accessFlags := 1, nameIndex := 5, descriptorIndex := 6, attributes := #[] }, { accessFlags := 9, nameIndex := 26, descriptorIndex := 27, attributes := #[] }] 49 2 #[] #[])
  fields := #[]
  methods := #[k1m0, k1m1]
  instanceTypes := #[]
  staticTypes := #[]
  resolved := Array.replicate 33 none
  statics := none }

def pool2 : Array CpInfo := pool [(1, .class_ 2), (0, u "java/lang/Integer"), (0, .class_ 4), (0, u "com/example/tanglemark/tanglemark/datalog/Relation"), (0, .integer 2147483639), (0, .methodref 3 7), (0, .nameAndType 8 9), (0, u "<init>"), (0, u "(Ljava/lang/String;II)V"), (0, .methodref 11 12), (0, .class_ 13), (0, .nameAndType 8 14), (0, u "java/lang/Object"), (0, u "()V"), (0, .class_ 16), (0, u "java/util/ArrayList"), (0, .methodref 15 12), (0, .fieldref 3 19), (0, .nameAndType 20 21), (0, u "indexes"), (0, u "Ljava/util/List;"), (0, .fieldref 3 23), (0, .nameAndType 24 25), (0, u "name"), (0, u "Ljava/lang/String;"), (0, .fieldref 3 27), (0, .nameAndType 28 29), (0, u "arity"), (0, u "I"), (0, .fieldref 3 31), (0, .nameAndType 32 29), (0, u "maxArray"), (0, .methodref 1 34), (0, .nameAndType 35 36), (0, u "highestOneBit"), (0, u "(I)I"), (0, .fieldref 3 38), (0, .nameAndType 39 29), (0, u "maxBuckets"), (0, .methodref 41 42), (0, .class_ 43), (0, .nameAndType 44 45), (0, u "java/lang/Math"), (0, u "min"), (0, u "(II)I"), (0, .fieldref 3 47), (0, .nameAndType 48 49), (0, u "data"), (0, u "[I"), (0, .fieldref 3 51), (0, .nameAndType 52 49), (0, u "allColumns"), (0, .invokeDynamic 0 54), (0, .nameAndType 55 56), (0, u "applyAsInt"), (0, u "()Ljava/util/function/IntUnaryOperator;"), (0, .methodref 58 59), (0, .class_ 60), (0, .nameAndType 61 62), (0, u "java/util/Arrays"), (0, u "setAll"), (0, u "([ILjava/util/function/IntUnaryOperator;)V"), (0, .methodref 3 64), (0, .nameAndType 65 66), (0, u "index"), (0, u "([I)Lcom/example/tanglemark/tanglemark/datalog/Relation$Index;"), (0, .class_ 68), (0, u "com/example/tanglemark/tanglemark/datalog/Relation$Chains"), (0, .fieldref 3 70), (0, .nameAndType 71 72), (0, u "unique"), (0, u "Lcom/example/tanglemark/tanglemark/datalog/Relation$Chains;"), (8, u "()I"), (3, .fieldref 3 86), (0, .nameAndType 87 88), (0, u "factored"), (0, u "Lcom/example/tanglemark/tanglemark/datalog/FactoredRows;"), (3, .fieldref 3 93), (0, .nameAndType 94 29), (0, u "size"), (2, u "stableEnd"), (2, u "deltaEnd"), (0, .fieldref 3 102), (0, .nameAndType 103 104), (0, u "frozen"), (0, u "Z"), (3, .methodref 3 109), (0, .nameAndType 110 111), (0, u "contains"), (0, u "([I)Z"), (0, .methodref 3 113), (0, .nameAndType 114 115), (0, u "append"), (0, u "([I)V"), (0, .methodref 3 117), (0, .nameAndType 118 14), (0, u "requireOpen"), (4, .long 2), (8, .methodref 133 134), (0, .class_ 135), (0, .nameAndType 136 137), (0, u "java/lang/System"), (0, u "arraycopy"), (0, u "(Ljava/lang/Object;ILjava/lang/Object;II)V"), (0, .interfaceMethodref 139 140), (0, .class_ 141), (0, .nameAndType 142 143), (0, u "java/util/List"), (0, u "iterator"), (0, u "()Ljava/util/Iterator;"), (0, .interfaceMethodref 145 146), (0, .class_ 147), (0, .nameAndType 148 149), (0, u "java/util/Iterator"), (0, u "hasNext"), (0, u "()Z"), (0, .interfaceMethodref 145 151), (0, .nameAndType 152 153), (0, u "next"), (0, u "()Ljava/lang/Object;"), (0, .class_ 155), (0, u "com/example/tanglemark/tanglemark/datalog/Relation$Index"), (0, .methodref 3 157), (0, .nameAndType 158 159), (0, u "insert"), (0, u "(Lcom/example/tanglemark/tanglemark/datalog/Relation$Chains;I)V"), (18, .methodref 3 179), (0, .nameAndType 180 181), (0, u "row"), (0, u "([I)I"), (0, .methodref 3 183), (0, .nameAndType 184 185), (0, u "newest"), (0, u "(Lcom/example/tanglemark/tanglemark/datalog/Relation$Chains;[II)I"), (0, .methodref 3 187), (0, .nameAndType 188 181), (0, u "hash"), (0, .methodref 3 190), (0, .nameAndType 191 192), (0, u "first"), (0, u "(Lcom/example/tanglemark/tanglemark/datalog/Relation$Chains;I)I"), (0, .fieldref 67 194), (0, .nameAndType 195 49), (0, u "columns"), (0, .methodref 3 197), (0, .nameAndType 198 199), (0, u "hasKey"), (0, u "(I[I[I)Z"), (0, .methodref 3 201), (0, .nameAndType 152 192), (7, .class_ 211), (1, u "com/example/tanglemark/tanglemark/datalog/Relation$Groups"), (9, .fieldref 154 194), (11, .methodref 234 235), (0, .class_ 49), (0, .nameAndType 236 153), (0, u "clone"), (7, .methodref 67 245), (0, .nameAndType 8 115), (0, .interfaceMethodref 139 247), (0, .nameAndType 248 249), (0, u "add"), (0, u "(Ljava/lang/Object;)Z"), (3, .methodref 3 254), (0, .nameAndType 255 256), (0, u "hashRow"), (0, u "([II)I"), (32, .fieldref 67 290), (0, .nameAndType 291 49), (0, u "heads"), (0, .fieldref 67 293), (0, .nameAndType 152 49), (0, .methodref 3 295), (0, .nameAndType 296 45), (0, u "mix"), (0, .methodref 3 298), (0, .nameAndType 299 36), (0, u "finish"), (0, .integer 2654435761), (0, .methodref 58 302), (0, .nameAndType 303 304), (0, u "fill"), (0, u "([II)V"), (0, .methodref 3 306), (0, .nameAndType 307 159), (0, u "link"), (0, u "MAX_ARRAY"), (3, u "(Ljava/lang/String;I)V"), (8, u "lambda$new$0"), (4, .methodType 36), (0, .methodHandle 6 328), (0, .methodref 3 329), (0, .nameAndType 321 36), (8, .methodHandle 6 339), (0, .methodref 340 341), (0, .class_ 342), (0, .nameAndType 343 344), (0, u "java/lang/invoke/LambdaMetafactory"), (0, u "metafactory"), (0, u "(Ljava/lang/invoke/MethodHandles$Lookup;Ljava/lang/String;Ljava/lang/invoke/MethodType;Ljava/lang/invoke/MethodType;Ljava/lang/invoke/MethodHandle;Ljava/lang/invoke/MethodType;)Ljava/lang/invoke/CallSite;")] 15

def k2c0 : Code := { maxStack := 4, maxLocals := 3, code := prog_45_method_1_code, exceptionTable := #[], attributes := #[] }
def k2m0 : Method := { name := "<init>", desc := "(Ljava/lang/String;I)V", sig := { parameters := [(.object "java/lang/String"), .int], returnType := none }, accessFlags := 0, code := some k2c0 }
def k2c1 : Code := { maxStack := 3, maxLocals := 4, code := prog_45_method_2_code, exceptionTable := #[], attributes := #[] }
def k2m1 : Method := { name := "<init>", desc := "(Ljava/lang/String;II)V", sig := { parameters := [(.object "java/lang/String"), .int, .int], returnType := none }, accessFlags := 0, code := some k2c1 }
def k2c2 : Code := { maxStack := 1, maxLocals := 1, code := prog_45_method_5_code, exceptionTable := #[], attributes := #[] }
def k2m2 : Method := { name := "size", desc := "()I", sig := { parameters := [], returnType := some .int }, accessFlags := 0, code := some k2c2 }
def k2c3 : Code := { maxStack := 2, maxLocals := 2, code := prog_45_method_8_code, exceptionTable := #[], attributes := #[] }
def k2m3 : Method := { name := "add", desc := "([I)Z", sig := { parameters := [(.array .int)], returnType := some .boolean }, accessFlags := 0, code := some k2c3 }
def k2c4 : Code := { maxStack := 6, maxLocals := 5, code := prog_45_method_9_code, exceptionTable := #[], attributes := #[] }
def k2m4 : Method := { name := "append", desc := "([I)V", sig := { parameters := [(.array .int)], returnType := none }, accessFlags := 0, code := some k2c4 }
def k2c5 : Code := { maxStack := 2, maxLocals := 2, code := prog_45_method_13_code, exceptionTable := #[], attributes := #[] }
def k2m5 : Method := { name := "contains", desc := "([I)Z", sig := { parameters := [(.array .int)], returnType := some .boolean }, accessFlags := 0, code := some k2c5 }
def k2c6 : Code := { maxStack := 4, maxLocals := 2, code := prog_45_method_14_code, exceptionTable := #[], attributes := #[] }
def k2m6 : Method := { name := "row", desc := "([I)I", sig := { parameters := [(.array .int)], returnType := some .int }, accessFlags := 0, code := some k2c6 }
def k2c7 : Code := { maxStack := 4, maxLocals := 5, code := prog_45_method_15_code, exceptionTable := #[], attributes := #[] }
def k2m7 : Method := { name := "newest", desc := "(Lcom/example/tanglemark/tanglemark/datalog/Relation$Chains;[II)I", sig := { parameters := [(.object "com/example/tanglemark/tanglemark/datalog/Relation$Chains"), (.array .int), .int], returnType := some .int }, accessFlags := 0, code := some k2c7 }
def k2c8 : Code := { maxStack := 3, maxLocals := 1, code := prog_45_method_16_code, exceptionTable := #[], attributes := #[] }
def k2m8 : Method := { name := "requireOpen", desc := "()V", sig := { parameters := [], returnType := none }, accessFlags := 2, code := some k2c8 }
def k2c9 : Code := { maxStack := 4, maxLocals := 6, code := prog_45_method_17_code, exceptionTable := #[], attributes := #[] }
def k2m9 : Method := { name := "hasKey", desc := "(I[I[I)Z", sig := { parameters := [.int, (.array .int), (.array .int)], returnType := some .boolean }, accessFlags := 2, code := some k2c9 }
def k2c10 : Code := { maxStack := 3, maxLocals := 5, code := prog_45_method_21_code, exceptionTable := #[], attributes := #[] }
def k2m10 : Method := { name := "index", desc := "([I)Lcom/example/tanglemark/tanglemark/datalog/Relation$Index;", sig := { parameters := [(.array .int)], returnType := some (.object "com/example/tanglemark/tanglemark/datalog/Relation$Index") }, accessFlags := 0, code := some k2c10 }
def k2c11 : Code := { maxStack := 4, maxLocals := 2, code := prog_45_method_28_code, exceptionTable := #[], attributes := #[] }
def k2m11 : Method := { name := "first", desc := "(Lcom/example/tanglemark/tanglemark/datalog/Relation$Chains;I)I", sig := { parameters := [(.object "com/example/tanglemark/tanglemark/datalog/Relation$Chains"), .int], returnType := some .int }, accessFlags := 8, code := some k2c11 }
def k2c12 : Code := { maxStack := 2, maxLocals := 2, code := prog_45_method_29_code, exceptionTable := #[], attributes := #[] }
def k2m12 : Method := { name := "next", desc := "(Lcom/example/tanglemark/tanglemark/datalog/Relation$Chains;I)I", sig := { parameters := [(.object "com/example/tanglemark/tanglemark/datalog/Relation$Chains"), .int], returnType := some .int }, accessFlags := 8, code := some k2c12 }
def k2c13 : Code := { maxStack := 2, maxLocals := 6, code := prog_45_method_30_code, exceptionTable := #[], attributes := #[] }
def k2m13 : Method := { name := "hash", desc := "([I)I", sig := { parameters := [(.array .int)], returnType := some .int }, accessFlags := 8, code := some k2c13 }
def k2c14 : Code := { maxStack := 4, maxLocals := 8, code := prog_45_method_31_code, exceptionTable := #[], attributes := #[] }
def k2m14 : Method := { name := "hashRow", desc := "([II)I", sig := { parameters := [(.array .int), .int], returnType := some .int }, accessFlags := 2, code := some k2c14 }
def k2c15 : Code := { maxStack := 2, maxLocals := 2, code := prog_45_method_32_code, exceptionTable := #[], attributes := #[] }
def k2m15 : Method := { name := "mix", desc := "(II)I", sig := { parameters := [.int, .int], returnType := some .int }, accessFlags := 10, code := some k2c15 }
def k2c16 : Code := { maxStack := 3, maxLocals := 1, code := prog_45_method_33_code, exceptionTable := #[], attributes := #[] }
def k2m16 : Method := { name := "finish", desc := "(I)I", sig := { parameters := [.int], returnType := some .int }, accessFlags := 10, code := some k2c16 }
def k2c17 : Code := { maxStack := 6, maxLocals := 4, code := prog_45_method_34_code, exceptionTable := #[], attributes := #[] }
def k2m17 : Method := { name := "insert", desc := "(Lcom/example/tanglemark/tanglemark/datalog/Relation$Chains;I)V", sig := { parameters := [(.object "com/example/tanglemark/tanglemark/datalog/Relation$Chains"), .int], returnType := none }, accessFlags := 2, code := some k2c17 }
def k2c18 : Code := { maxStack := 4, maxLocals := 4, code := prog_45_method_35_code, exceptionTable := #[], attributes := #[] }
def k2m18 : Method := { name := "link", desc := "(Lcom/example/tanglemark/tanglemark/datalog/Relation$Chains;I)V", sig := { parameters := [(.object "com/example/tanglemark/tanglemark/datalog/Relation$Chains"), .int], returnType := none }, accessFlags := 2, code := some k2c18 }
def k2c19 : Code := { maxStack := 1, maxLocals := 1, code := prog_45_method_36_code, exceptionTable := #[], attributes := #[] }
def k2m19 : Method := { name := "lambda$new$0", desc := "(I)I", sig := { parameters := [.int], returnType := some .int }, accessFlags := 4106, code := some k2c19 }
/-- com/example/tanglemark/tanglemark/datalog/Relation -/
def k2 : Class := { plain "com/example/tanglemark/tanglemark/datalog/Relation" (some 0) with
  accessFlags := 48
  interfaces := #[]
  cf := some (fileOf pool2 3 #[.nestMembers #[209, 67, 154], .bootstrapMethods #[⟨338, #[326, 327, 326]⟩, ⟨0, #[]⟩, ⟨0, #[]⟩, ⟨0, #[]⟩, ⟨0, #[]⟩]] #[{ accessFlags := 0, nameIndex := 8, descriptorIndex := 312, attributes := #[] }, { accessFlags := 0, nameIndex := 8, descriptorIndex := 9, attributes := #[] }, { accessFlags := 0, nameIndex := 94, descriptorIndex := 81, attributes := #[] }, { accessFlags := 0, nameIndex := 248, descriptorIndex := 111, attributes := #[] }, { accessFlags := 0, nameIndex := 114, descriptorIndex := 115, attributes := #[] }, { accessFlags := 0, nameIndex := 110, descriptorIndex := 111, attributes := #[] }, { accessFlags := 0, nameIndex := 180, descriptorIndex := 181, attributes := #[] }, { accessFlags := 0, nameIndex := 184, descriptorIndex := 185, attributes := #[] }, { accessFlags := 2, nameIndex := 118, descriptorIndex := 14, attributes := #[] }, { accessFlags := 2, nameIndex := 198, descriptorIndex := 199, attributes := #[] }, { accessFlags := 0, nameIndex := 65, descriptorIndex := 66, attributes := #[] }, { accessFlags := 8, nameIndex := 191, descriptorIndex := 192, attributes := #[] }, { accessFlags := 8, nameIndex := 152, descriptorIndex := 192, attributes := #[] }, { accessFlags := 8, nameIndex := 188, descriptorIndex := 181, attributes := #[] }, { accessFlags := 2, nameIndex := 255, descriptorIndex := 256, attributes := #[] }, { accessFlags := 10, nameIndex := 296, descriptorIndex := 45, attributes := #[] }, { accessFlags := 10, nameIndex := 299, descriptorIndex := 36, attributes := #[] }, { accessFlags := 2, nameIndex := 158, descriptorIndex := 159, attributes := #[] }, { accessFlags := 2, nameIndex := 307, descriptorIndex := 159, attributes := #[] }, { accessFlags := 4106, nameIndex := 321, descriptorIndex := 36, attributes := #[] }] 48 11 #[] #[{ accessFlags := 24, nameIndex := 308, descriptorIndex := 29, attributes := #[] }, { accessFlags := 16, nameIndex := 24, descriptorIndex := 25, attributes := #[] }, { accessFlags := 16, nameIndex := 28, descriptorIndex := 29, attributes := #[] }, { accessFlags := 18, nameIndex := 32, descriptorIndex := 29, attributes := #[] }, { accessFlags := 18, nameIndex := 39, descriptorIndex := 29, attributes := #[] }, { accessFlags := 2, nameIndex := 48, descriptorIndex := 49, attributes := #[] }, { accessFlags := 2, nameIndex := 87, descriptorIndex := 88, attributes := #[] }, { accessFlags := 2, nameIndex := 94, descriptorIndex := 29, attributes := #[] }, { accessFlags := 18, nameIndex := 52, descriptorIndex := 49, attributes := #[] }, { accessFlags := 2, nameIndex := 71, descriptorIndex := 72, attributes := #[] }, { accessFlags := 18, nameIndex := 20, descriptorIndex := 21, attributes := #[] }, { accessFlags := 2, nameIndex := 103, descriptorIndex := 104, attributes := #[] }, { accessFlags := 0, nameIndex := 97, descriptorIndex := 29, attributes := #[] }, { accessFlags := 0, nameIndex := 100, descriptorIndex := 29, attributes := #[] }])
  fields := #[{ name := "MAX_ARRAY", type := .int, accessFlags := 24, slot := 0, constantValue := 0 }, { name := "name", type := (.object "java/lang/String"), accessFlags := 16, slot := 0, constantValue := 0 }, { name := "arity", type := .int, accessFlags := 16, slot := 1, constantValue := 0 }, { name := "maxArray", type := .int, accessFlags := 18, slot := 2, constantValue := 0 }, { name := "maxBuckets", type := .int, accessFlags := 18, slot := 3, constantValue := 0 }, { name := "data", type := (.array .int), accessFlags := 2, slot := 4, constantValue := 0 }, { name := "factored", type := (.object "com/example/tanglemark/tanglemark/datalog/FactoredRows"), accessFlags := 2, slot := 5, constantValue := 0 }, { name := "size", type := .int, accessFlags := 2, slot := 6, constantValue := 0 }, { name := "allColumns", type := (.array .int), accessFlags := 18, slot := 7, constantValue := 0 }, { name := "unique", type := (.object "com/example/tanglemark/tanglemark/datalog/Relation$Chains"), accessFlags := 2, slot := 8, constantValue := 0 }, { name := "indexes", type := (.object "java/util/List"), accessFlags := 18, slot := 9, constantValue := 0 }, { name := "frozen", type := .boolean, accessFlags := 2, slot := 10, constantValue := 0 }, { name := "stableEnd", type := .int, accessFlags := 0, slot := 11, constantValue := 0 }, { name := "deltaEnd", type := .int, accessFlags := 0, slot := 12, constantValue := 0 }]
  methods := #[k2m0, k2m1, k2m2, k2m3, k2m4, k2m5, k2m6, k2m7, k2m8, k2m9, k2m10, k2m11, k2m12, k2m13, k2m14, k2m15, k2m16, k2m17, k2m18, k2m19]
  instanceTypes := #[(.object "java/lang/String"), .int, .int, .int, (.array .int), (.object "com/example/tanglemark/tanglemark/datalog/FactoredRows"), .int, (.array .int), (.object "com/example/tanglemark/tanglemark/datalog/Relation$Chains"), (.object "java/util/List"), .boolean, .int, .int]
  staticTypes := #[.int]
  resolved := ((((Array.replicate 360 none).setIfInBounds 67 (some (.cls 27))).setIfInBounds 244 (some (.method ⟨27, 0⟩))).setIfInBounds 289 (some (.field 27 0))).setIfInBounds 292 (some (.field 27 1))
  callSites := [(1, 63, .constant 1)]
  statics := none }

def pool3 : Array CpInfo := pool [(1, .class_ 2), (0, u "java/io/Serializable"), (0, .class_ 4), (0, u "java/lang/Object")] 2

/-- java/io/Serializable -/
def k3 : Class := { plain "java/io/Serializable" (some 0) with
  accessFlags := 1537
  interfaces := #[]
  cf := some (fileOf pool3 1 #[] #[] 1537 3 #[] #[])
  fields := #[]
  methods := #[]
  instanceTypes := #[]
  staticTypes := #[]
  resolved := Array.replicate 7 none
  statics := none }

def pool4 : Array CpInfo := pool [(1, .class_ 2), (0, u "java/lang/Comparable"), (0, .class_ 4), (0, u "java/lang/Object")] 7

/-- java/lang/Comparable -/
def k4 : Class := { plain "java/lang/Comparable" (some 0) with
  accessFlags := 1537
  interfaces := #[]
  cf := some (fileOf pool4 1 #[] #[] 1537 3 #[] #[])
  fields := #[]
  methods := #[]
  instanceTypes := #[]
  staticTypes := #[]
  resolved := Array.replicate 12 none
  statics := none }

def pool5 : Array CpInfo := pool [(2, .class_ 4), (1, u "java/lang/CharSequence"), (42, .class_ 48), (0, u "java/lang/CharSequence$1CodePointIterator"), (10, .class_ 60), (0, u "java/lang/CharSequence$1CharIterator"), (5, .class_ 67), (0, u "java/lang/Object")] 63

/-- java/lang/CharSequence -/
def k5 : Class := { plain "java/lang/CharSequence" (some 0) with
  accessFlags := 1537
  interfaces := #[]
  cf := some (fileOf pool5 2 #[.nestMembers #[47, 59]] #[] 1537 66 #[] #[])
  fields := #[]
  methods := #[]
  instanceTypes := #[]
  staticTypes := #[]
  resolved := Array.replicate 131 none
  statics := none }

def pool6 : Array CpInfo := pool [(1, .class_ 2), (0, u "java/lang/constant/Constable"), (0, .class_ 4), (0, u "java/lang/Object")] 6

/-- java/lang/constant/Constable -/
def k6 : Class := { plain "java/lang/constant/Constable" (some 0) with
  accessFlags := 1537
  interfaces := #[]
  cf := some (fileOf pool6 1 #[] #[] 1537 3 #[] #[])
  fields := #[]
  methods := #[]
  instanceTypes := #[]
  staticTypes := #[]
  resolved := Array.replicate 11 none
  statics := none }

def pool7 : Array CpInfo := pool [(1, .class_ 2), (0, u "java/lang/constant/ConstantDesc"), (0, .class_ 4), (0, u "java/lang/Object")] 32

/-- java/lang/constant/ConstantDesc -/
def k7 : Class := { plain "java/lang/constant/ConstantDesc" (some 0) with
  accessFlags := 1537
  interfaces := #[]
  cf := some (fileOf pool7 1 #[] #[] 1537 3 #[] #[])
  fields := #[]
  methods := #[]
  instanceTypes := #[]
  staticTypes := #[]
  resolved := Array.replicate 37 none
  statics := none }

def pool8 : Array CpInfo := pool [(2, .class_ 4), (1, u "java/lang/Object"), (0, u "<init>"), (0, u "()V"), (3, .class_ 12), (1, u "java/lang/String"), (0, u "value"), (0, u "[B"), (2, u "coder"), (0, u "B"), (2, u "hash"), (0, u "I"), (2, u "hashIsZero"), (0, u "Z"), (13, u "COMPACT_STRINGS"), (534, .class_ 576), (0, u "java/lang/CharSequence"), (22, u "CASE_INSENSITIVE_ORDER"), (0, u "Ljava/util/Comparator;"), (500, u "serialPersistentFields"), (0, u "[Ljava/io/ObjectStreamField;"), (0, .class_ 1104), (0, u "java/lang/String$CaseInsensitiveComparator"), (1, .class_ 1107), (0, u "java/io/Serializable"), (0, .class_ 1109), (0, u "java/lang/Comparable"), (0, .class_ 1111), (0, u "java/lang/constant/Constable"), (0, .class_ 1113), (0, u "java/lang/constant/ConstantDesc"), (2, u "serialVersionUID"), (0, u "J"), (3, u "REPL"), (0, u "C"), (2, u "LATIN1"), (1, u "UTF16")] 323

def k8m0 : Method := { name := "<init>", desc := "()V", sig := { parameters := [], returnType := none }, accessFlags := 1, code := none }
/-- java/lang/String -/
def k8 : Class := { plain "java/lang/String" (some 0) with
  accessFlags := 49
  interfaces := #[3, 4, 5, 6, 7]
  cf := some (fileOf pool8 10 #[.nestMembers #[1103]] #[{ accessFlags := 1, nameIndex := 5, descriptorIndex := 6, attributes := #[] }] 49 2 #[1106, 1108, 575, 1110, 1112] #[{ accessFlags := 18, nameIndex := 13, descriptorIndex := 14, attributes := #[] }, { accessFlags := 18, nameIndex := 17, descriptorIndex := 18, attributes := #[] }, { accessFlags := 2, nameIndex := 21, descriptorIndex := 22, attributes := #[] }, { accessFlags := 2, nameIndex := 25, descriptorIndex := 26, attributes := #[] }, { accessFlags := 26, nameIndex := 1116, descriptorIndex := 1117, attributes := #[] }, { accessFlags := 24, nameIndex := 40, descriptorIndex := 26, attributes := #[] }, { accessFlags := 26, nameIndex := 1101, descriptorIndex := 1102, attributes := #[] }, { accessFlags := 26, nameIndex := 1121, descriptorIndex := 1122, attributes := #[] }, { accessFlags := 25, nameIndex := 599, descriptorIndex := 600, attributes := #[] }, { accessFlags := 24, nameIndex := 1125, descriptorIndex := 18, attributes := #[] }, { accessFlags := 24, nameIndex := 1127, descriptorIndex := 18, attributes := #[] }])
  fields := #[{ name := "value", type := (.array .byte), accessFlags := 18, slot := 0, constantValue := 0 }, { name := "coder", type := .byte, accessFlags := 18, slot := 1, constantValue := 0 }, { name := "hash", type := .int, accessFlags := 2, slot := 2, constantValue := 0 }, { name := "hashIsZero", type := .boolean, accessFlags := 2, slot := 3, constantValue := 0 }, { name := "serialVersionUID", type := .long, accessFlags := 26, slot := 0, constantValue := 0 }, { name := "COMPACT_STRINGS", type := .boolean, accessFlags := 24, slot := 1, constantValue := 0 }, { name := "serialPersistentFields", type := (.array (.object "java/io/ObjectStreamField")), accessFlags := 26, slot := 2, constantValue := 0 }, { name := "REPL", type := .char, accessFlags := 26, slot := 3, constantValue := 0 }, { name := "CASE_INSENSITIVE_ORDER", type := (.object "java/util/Comparator"), accessFlags := 25, slot := 4, constantValue := 0 }, { name := "LATIN1", type := .byte, accessFlags := 24, slot := 5, constantValue := 0 }, { name := "UTF16", type := .byte, accessFlags := 24, slot := 6, constantValue := 0 }]
  methods := #[k8m0]
  instanceTypes := #[(.array .byte), .byte, .int, .boolean]
  staticTypes := #[.long, .boolean, (.array (.object "java/io/ObjectStreamField")), .char, (.object "java/util/Comparator"), .byte, .byte]
  resolved := Array.replicate 1451 none
  statics := none }

def pool9 : Array CpInfo := pool [(8, .class_ 10), (1, u "java/lang/Iterable"), (24, .class_ 36), (0, u "java/lang/Object")] 25

/-- java/lang/Iterable -/
def k9 : Class := { plain "java/lang/Iterable" (some 0) with
  accessFlags := 1537
  interfaces := #[]
  cf := some (fileOf pool9 8 #[] #[] 1537 35 #[] #[])
  fields := #[]
  methods := #[]
  instanceTypes := #[]
  staticTypes := #[]
  resolved := Array.replicate 62 none
  statics := none }

def pool10 : Array CpInfo := pool [(10, .class_ 12), (1, u "java/util/Collection"), (47, .class_ 61), (0, u "java/lang/Object"), (0, .class_ 63), (0, u "java/lang/Iterable")] 51

/-- java/util/Collection -/
def k10 : Class := { plain "java/util/Collection" (some 0) with
  accessFlags := 1537
  interfaces := #[9]
  cf := some (fileOf pool10 10 #[] #[] 1537 60 #[62] #[])
  fields := #[]
  methods := #[]
  instanceTypes := #[]
  staticTypes := #[]
  resolved := Array.replicate 115 none
  statics := none }

def pool11 : Array CpInfo := pool [(1, .methodref 2 3), (0, .class_ 4), (0, .nameAndType 5 6), (0, u "java/lang/Object"), (0, u "<init>"), (0, u "()V"), (1, .class_ 10), (1, u "java/util/AbstractCollection"), (66, .class_ 78), (0, u "java/util/Collection")] 81

def k11c0 : Code := { maxStack := 1, maxLocals := 1, code := jdk_22_method_1_code, exceptionTable := #[], attributes := #[] }
def k11m0 : Method := { name := "<init>", desc := "()V", sig := { parameters := [], returnType := none }, accessFlags := 4, code := some k11c0 }
/-- java/util/AbstractCollection -/
def k11 : Class := { plain "java/util/AbstractCollection" (some 0) with
  accessFlags := 1057
  interfaces := #[10]
  cf := some (fileOf pool11 8 #[] #[{ accessFlags := 4, nameIndex := 5, descriptorIndex := 6, attributes := #[] }] 1057 2 #[77] #[])
  fields := #[]
  methods := #[k11m0]
  instanceTypes := #[]
  staticTypes := #[]
  resolved := Array.replicate 160 none
  statics := none }

def pool12 : Array CpInfo := pool [(8, .class_ 10), (1, u "java/util/SequencedCollection"), (15, .class_ 27), (0, u "java/lang/Object"), (0, .class_ 29), (0, u "java/util/Collection")] 27

/-- java/util/SequencedCollection -/
def k12 : Class := { plain "java/util/SequencedCollection" (some 0) with
  accessFlags := 1537
  interfaces := #[10]
  cf := some (fileOf pool12 8 #[] #[] 1537 26 #[28] #[])
  fields := #[]
  methods := #[]
  instanceTypes := #[]
  staticTypes := #[]
  resolved := Array.replicate 57 none
  statics := none }

def pool13 : Array CpInfo := pool [(8, .class_ 10), (1, u "java/util/List"), (49, u "add"), (3, u "(Ljava/lang/Object;)Z"), (38, .class_ 104), (0, u "java/lang/Object"), (15, .class_ 121), (0, u "java/util/SequencedCollection"), (1, u "iterator"), (0, u "()Ljava/util/Iterator;")] 126

def k13m0 : Method := { name := "iterator", desc := "()Ljava/util/Iterator;", sig := { parameters := [], returnType := some (.object "java/util/Iterator") }, accessFlags := 1025, code := none }
def k13m1 : Method := { name := "add", desc := "(Ljava/lang/Object;)Z", sig := { parameters := [(.object "java/lang/Object")], returnType := some .boolean }, accessFlags := 1025, code := none }
/-- java/util/List -/
def k13 : Class := { plain "java/util/List" (some 0) with
  accessFlags := 1537
  interfaces := #[12]
  cf := some (fileOf pool13 8 #[] #[{ accessFlags := 1025, nameIndex := 123, descriptorIndex := 124, attributes := #[] }, { accessFlags := 1025, nameIndex := 60, descriptorIndex := 64, attributes := #[] }] 1537 103 #[120] #[])
  fields := #[]
  methods := #[k13m0, k13m1]
  instanceTypes := #[]
  staticTypes := #[]
  resolved := Array.replicate 251 none
  statics := none }

def pool14 : Array CpInfo := pool [(1, .methodref 2 3), (0, .class_ 4), (0, .nameAndType 5 6), (0, u "java/util/AbstractCollection"), (0, u "<init>"), (0, u "()V"), (0, .fieldref 8 9), (0, .class_ 10), (0, .nameAndType 11 12), (0, u "java/util/AbstractList"), (0, u "modCount"), (0, u "I"), (64, .class_ 78), (0, u "java/util/AbstractList$Itr"), (3, .class_ 83), (0, u "java/util/AbstractList$ListItr"), (9, .class_ 94), (0, u "java/util/AbstractList$RandomAccessSubList"), (3, .class_ 99), (0, u "java/util/AbstractList$SubList"), (33, .class_ 134), (0, u "java/util/List"), (73, .class_ 209), (0, u "java/util/AbstractList$SubList$1"), (0, .class_ 211), (0, u "java/util/AbstractList$RandomAccessSpliterator")] 6

def k14c0 : Code := { maxStack := 2, maxLocals := 1, code := jdk_39_method_1_code, exceptionTable := #[], attributes := #[] }
def k14m0 : Method := { name := "<init>", desc := "()V", sig := { parameters := [], returnType := none }, accessFlags := 4, code := some k14c0 }
/-- java/util/AbstractList -/
def k14 : Class := { plain "java/util/AbstractList" (some 11) with
  accessFlags := 1057
  interfaces := #[13]
  cf := some (fileOf pool14 8 #[.nestMembers #[93, 98, 208, 210, 82, 77]] #[{ accessFlags := 4, nameIndex := 5, descriptorIndex := 6, attributes := #[] }] 1057 2 #[133] #[{ accessFlags := 132, nameIndex := 11, descriptorIndex := 12, attributes := #[] }])
  fields := #[{ name := "modCount", type := .int, accessFlags := 132, slot := 0, constantValue := 0 }]
  methods := #[k14m0]
  instanceTypes := #[.int]
  staticTypes := #[]
  resolved := Array.replicate 218 none
  statics := none }

def pool15 : Array CpInfo := pool [(1, .class_ 2), (0, u "java/util/RandomAccess"), (0, .class_ 4), (0, u "java/lang/Object")] 2

/-- java/util/RandomAccess -/
def k15 : Class := { plain "java/util/RandomAccess" (some 0) with
  accessFlags := 1537
  interfaces := #[]
  cf := some (fileOf pool15 1 #[] #[] 1537 3 #[] #[])
  fields := #[]
  methods := #[]
  instanceTypes := #[]
  staticTypes := #[]
  resolved := Array.replicate 7 none
  statics := none }

def pool16 : Array CpInfo := pool [(1, .class_ 2), (0, u "java/lang/Cloneable"), (0, .class_ 4), (0, u "java/lang/Object")] 2

/-- java/lang/Cloneable -/
def k16 : Class := { plain "java/lang/Cloneable" (some 0) with
  accessFlags := 1537
  interfaces := #[]
  cf := some (fileOf pool16 1 #[] #[] 1537 3 #[] #[])
  fields := #[]
  methods := #[]
  instanceTypes := #[]
  staticTypes := #[]
  resolved := Array.replicate 7 none
  statics := none }

def pool17 : Array CpInfo := pool [(1, .methodref 2 3), (0, .class_ 4), (0, .nameAndType 5 6), (0, u "java/util/AbstractList"), (0, u "<init>"), (0, u "()V"), (0, .class_ 8), (0, u "java/lang/Object"), (0, .fieldref 10 11), (0, .class_ 12), (0, .nameAndType 13 14), (0, u "java/util/ArrayList"), (0, u "elementData"), (0, u "[Ljava/lang/Object;"), (2, u "EMPTY_ELEMENTDATA"), (21, .fieldref 10 40), (0, .nameAndType 41 14), (0, u "DEFAULTCAPACITY_EMPTY_ELEMENTDATA"), (5, u "()[Ljava/lang/Object;"), (0, .fieldref 10 49), (0, .nameAndType 50 51), (0, u "size"), (0, u "I"), (11, .fieldref 10 64), (0, .nameAndType 65 51), (0, u "modCount"), (3, .methodref 10 70), (0, .nameAndType 71 72), (0, u "grow"), (0, u "(I)[Ljava/lang/Object;"), (6, .methodref 80 81), (0, .class_ 82), (0, .nameAndType 83 84), (0, u "java/lang/Math"), (0, u "max"), (0, u "(II)I"), (11, u "(Ljava/lang/Object;)Z"), (32, .methodref 10 130), (0, .nameAndType 71 47), (0, .methodref 10 132), (0, .nameAndType 133 134), (0, u "add"), (0, u "(Ljava/lang/Object;[Ljava/lang/Object;I)V"), (13, .class_ 149), (0, u "java/util/List"), (16, u "iterator"), (0, u "()Ljava/util/Iterator;"), (94, .class_ 263), (0, u "java/util/ArrayList$ListItr"), (3, .class_ 268), (0, u "java/util/ArrayList$Itr"), (0, .methodref 267 270), (0, .nameAndType 5 271), (0, u "(Ljava/util/ArrayList;)V"), (4, .class_ 277), (0, u "java/util/ArrayList$SubList"), (12, .class_ 291), (0, u "java/util/ArrayList$ArrayListSpliterator"), (37, .class_ 330), (0, u "java/util/RandomAccess"), (0, .class_ 332), (0, u "java/lang/Cloneable"), (0, .class_ 334), (0, u "java/io/Serializable"), (0, u "serialVersionUID"), (0, u "J"), (3, u "DEFAULT_CAPACITY"), (159, .class_ 501), (0, u "java/util/ArrayList$SubList$2"), (0, .class_ 503), (0, u "java/util/ArrayList$SubList$1")] 5

def k17c0 : Code := { maxStack := 2, maxLocals := 1, code := jdk_38_method_2_code, exceptionTable := #[], attributes := #[] }
def k17m0 : Method := { name := "<init>", desc := "()V", sig := { parameters := [], returnType := none }, accessFlags := 1, code := some k17c0 }
def k17c1 : Code := { maxStack := 4, maxLocals := 4, code := jdk_38_method_6_code, exceptionTable := #[], attributes := #[] }
def k17m1 : Method := { name := "grow", desc := "(I)[Ljava/lang/Object;", sig := { parameters := [.int], returnType := some (.array (.object "java/lang/Object")) }, accessFlags := 2, code := some k17c1 }
def k17c2 : Code := { maxStack := 3, maxLocals := 1, code := jdk_38_method_7_code, exceptionTable := #[], attributes := #[] }
def k17m2 : Method := { name := "grow", desc := "()[Ljava/lang/Object;", sig := { parameters := [], returnType := some (.array (.object "java/lang/Object")) }, accessFlags := 2, code := some k17c2 }
def k17c3 : Code := { maxStack := 3, maxLocals := 4, code := jdk_38_method_24_code, exceptionTable := #[], attributes := #[] }
def k17m3 : Method := { name := "add", desc := "(Ljava/lang/Object;[Ljava/lang/Object;I)V", sig := { parameters := [(.object "java/lang/Object"), (.array (.object "java/lang/Object")), .int], returnType := none }, accessFlags := 2, code := some k17c3 }
def k17c4 : Code := { maxStack := 4, maxLocals := 2, code := jdk_38_method_25_code, exceptionTable := #[], attributes := #[] }
def k17m4 : Method := { name := "add", desc := "(Ljava/lang/Object;)Z", sig := { parameters := [(.object "java/lang/Object")], returnType := some .boolean }, accessFlags := 1, code := some k17c4 }
def k17c5 : Code := { maxStack := 3, maxLocals := 1, code := jdk_38_method_55_code, exceptionTable := #[], attributes := #[] }
def k17m5 : Method := { name := "iterator", desc := "()Ljava/util/Iterator;", sig := { parameters := [], returnType := some (.object "java/util/Iterator") }, accessFlags := 1, code := some k17c5 }
/-- java/util/ArrayList -/
def k17 : Class := { plain "java/util/ArrayList" (some 14) with
  accessFlags := 33
  interfaces := #[13, 15, 16, 3]
  cf := some (fileOf pool17 10 #[.nestMembers #[290, 276, 500, 502, 262, 267]] #[{ accessFlags := 1, nameIndex := 5, descriptorIndex := 6, attributes := #[] }, { accessFlags := 2, nameIndex := 71, descriptorIndex := 72, attributes := #[] }, { accessFlags := 2, nameIndex := 71, descriptorIndex := 47, attributes := #[] }, { accessFlags := 2, nameIndex := 133, descriptorIndex := 134, attributes := #[] }, { accessFlags := 1, nameIndex := 133, descriptorIndex := 96, attributes := #[] }, { accessFlags := 1, nameIndex := 166, descriptorIndex := 167, attributes := #[] }] 33 2 #[148, 329, 331, 333] #[{ accessFlags := 26, nameIndex := 335, descriptorIndex := 336, attributes := #[] }, { accessFlags := 26, nameIndex := 340, descriptorIndex := 51, attributes := #[] }, { accessFlags := 26, nameIndex := 17, descriptorIndex := 14, attributes := #[] }, { accessFlags := 26, nameIndex := 41, descriptorIndex := 14, attributes := #[] }, { accessFlags := 128, nameIndex := 13, descriptorIndex := 14, attributes := #[] }, { accessFlags := 2, nameIndex := 50, descriptorIndex := 51, attributes := #[] }])
  fields := #[{ name := "serialVersionUID", type := .long, accessFlags := 26, slot := 0, constantValue := 0 }, { name := "DEFAULT_CAPACITY", type := .int, accessFlags := 26, slot := 1, constantValue := 0 }, { name := "EMPTY_ELEMENTDATA", type := (.array (.object "java/lang/Object")), accessFlags := 26, slot := 2, constantValue := 0 }, { name := "DEFAULTCAPACITY_EMPTY_ELEMENTDATA", type := (.array (.object "java/lang/Object")), accessFlags := 26, slot := 3, constantValue := 0 }, { name := "elementData", type := (.array (.object "java/lang/Object")), accessFlags := 128, slot := 1, constantValue := 0 }, { name := "size", type := .int, accessFlags := 2, slot := 2, constantValue := 0 }]
  methods := #[k17m0, k17m1, k17m2, k17m3, k17m4, k17m5]
  instanceTypes := #[.int, (.array (.object "java/lang/Object")), .int]
  staticTypes := #[.long, .int, (.array (.object "java/lang/Object")), (.array (.object "java/lang/Object"))]
  resolved := Array.replicate 509 none
  statics := some 0 }

def pool18 : Array CpInfo := pool [(2, .class_ 4), (1, u "java/lang/Object"), (0, u "<init>"), (0, u "()V"), (1, .class_ 10), (1, u "java/lang/Number"), (2, .class_ 14), (0, u "java/io/Serializable"), (0, u "serialVersionUID"), (0, u "J")] 20

def k18m0 : Method := { name := "<init>", desc := "()V", sig := { parameters := [], returnType := none }, accessFlags := 1, code := none }
/-- java/lang/Number -/
def k18 : Class := { plain "java/lang/Number" (some 0) with
  accessFlags := 1057
  interfaces := #[3]
  cf := some (fileOf pool18 8 #[] #[{ accessFlags := 1, nameIndex := 5, descriptorIndex := 6, attributes := #[] }] 1057 2 #[13] #[{ accessFlags := 26, nameIndex := 15, descriptorIndex := 16, attributes := #[] }])
  fields := #[{ name := "serialVersionUID", type := .long, accessFlags := 26, slot := 0, constantValue := 0 }]
  methods := #[k18m0]
  instanceTypes := #[]
  staticTypes := #[.long]
  resolved := Array.replicate 37 none
  statics := none }

def pool19 : Array CpInfo := pool [(1, .class_ 2), (0, u "java/lang/Integer"), (16, u "digits"), (0, u "[C"), (30, .methodref 1 52), (0, .nameAndType 53 54), (0, u "numberOfLeadingZeros"), (0, u "(I)I"), (30, u "DigitOnes"), (0, u "[B"), (2, u "DigitTens"), (37, .integer 2147483648), (61, .class_ 190), (0, u "java/lang/Integer$IntegerCache"), (3, u "I"), (8, .class_ 204), (0, u "java/lang/Number"), (2, u "value"), (56, .integer 65536), (37, u "TYPE"), (0, u "Ljava/lang/Class;"), (0, .class_ 305), (0, u "java/lang/Comparable"), (0, .class_ 307), (0, u "java/lang/constant/Constable"), (0, .class_ 309), (0, u "java/lang/constant/ConstantDesc"), (0, u "MIN_VALUE"), (1, u "MAX_VALUE"), (3, u "SIZE"), (1, u "BYTES"), (1, u "serialVersionUID"), (0, u "J"), (81, u "highestOneBit")] 49

def k19c0 : Code := { maxStack := 3, maxLocals := 1, code := jdk_33_method_45_code, exceptionTable := #[], attributes := #[] }
def k19m0 : Method := { name := "highestOneBit", desc := "(I)I", sig := { parameters := [.int], returnType := some .int }, accessFlags := 9, code := some k19c0 }
def k19c1 : Code := { maxStack := 3, maxLocals := 2, code := jdk_33_method_47_code, exceptionTable := #[], attributes := #[] }
def k19m1 : Method := { name := "numberOfLeadingZeros", desc := "(I)I", sig := { parameters := [.int], returnType := some .int }, accessFlags := 9, code := some k19c1 }
/-- java/lang/Integer -/
def k19 : Class := { plain "java/lang/Integer" (some 18) with
  accessFlags := 49
  interfaces := #[4, 6, 7]
  cf := some (fileOf pool19 1 #[.nestMembers #[189]] #[{ accessFlags := 9, nameIndex := 403, descriptorIndex := 54, attributes := #[] }, { accessFlags := 9, nameIndex := 53, descriptorIndex := 54, attributes := #[] }] 49 203 #[304, 306, 308] #[{ accessFlags := 25, nameIndex := 310, descriptorIndex := 194, attributes := #[] }, { accessFlags := 25, nameIndex := 312, descriptorIndex := 194, attributes := #[] }, { accessFlags := 25, nameIndex := 302, descriptorIndex := 303, attributes := #[] }, { accessFlags := 24, nameIndex := 19, descriptorIndex := 20, attributes := #[] }, { accessFlags := 24, nameIndex := 89, descriptorIndex := 86, attributes := #[] }, { accessFlags := 24, nameIndex := 85, descriptorIndex := 86, attributes := #[] }, { accessFlags := 18, nameIndex := 207, descriptorIndex := 194, attributes := #[] }, { accessFlags := 25, nameIndex := 316, descriptorIndex := 194, attributes := #[] }, { accessFlags := 25, nameIndex := 318, descriptorIndex := 194, attributes := #[] }, { accessFlags := 26, nameIndex := 320, descriptorIndex := 321, attributes := #[] }])
  fields := #[{ name := "MIN_VALUE", type := .int, accessFlags := 25, slot := 0, constantValue := 0 }, { name := "MAX_VALUE", type := .int, accessFlags := 25, slot := 1, constantValue := 0 }, { name := "TYPE", type := (.object "java/lang/Class"), accessFlags := 25, slot := 2, constantValue := 0 }, { name := "digits", type := (.array .char), accessFlags := 24, slot := 3, constantValue := 0 }, { name := "DigitTens", type := (.array .byte), accessFlags := 24, slot := 4, constantValue := 0 }, { name := "DigitOnes", type := (.array .byte), accessFlags := 24, slot := 5, constantValue := 0 }, { name := "value", type := .int, accessFlags := 18, slot := 0, constantValue := 0 }, { name := "SIZE", type := .int, accessFlags := 25, slot := 6, constantValue := 0 }, { name := "BYTES", type := .int, accessFlags := 25, slot := 7, constantValue := 0 }, { name := "serialVersionUID", type := .long, accessFlags := 26, slot := 8, constantValue := 0 }]
  methods := #[k19m0, k19m1]
  instanceTypes := #[.int]
  staticTypes := #[.int, .int, (.object "java/lang/Class"), (.array .char), (.array .byte), (.array .byte), .int, .int, .long]
  resolved := Array.replicate 453 none
  statics := none }

def pool20 : Array CpInfo := pool [(1, .class_ 2), (0, u "java/lang/Math"), (1, .class_ 6), (1, u "java/lang/Object"), (0, u "<init>"), (0, u "()V"), (89, .class_ 100), (1, u "java/lang/Math$RandomNumberGeneratorHolder"), (71, u "negativeZeroFloatBits"), (0, u "J"), (2, u "negativeZeroDoubleBits"), (21, u "max"), (2, u "min"), (43, u "$assertionsDisabled"), (0, u "Z"), (88, u "(II)I"), (2, u "twoToTheDoubleScaleDown"), (0, u "D"), (4, u "twoToTheDoubleScaleUp"), (9, u "E"), (3, u "PI"), (2, u "TAU"), (2, u "DEGREES_TO_RADIANS"), (0, u "RADIANS_TO_DEGREES")] 94

def k20m0 : Method := { name := "<init>", desc := "()V", sig := { parameters := [], returnType := none }, accessFlags := 2, code := none }
def k20c1 : Code := { maxStack := 2, maxLocals := 2, code := jdk_29_method_65_code, exceptionTable := #[], attributes := #[] }
def k20m1 : Method := { name := "max", desc := "(II)I", sig := { parameters := [.int, .int], returnType := some .int }, accessFlags := 9, code := some k20c1 }
def k20c2 : Code := { maxStack := 2, maxLocals := 2, code := jdk_29_method_69_code, exceptionTable := #[], attributes := #[] }
def k20m2 : Method := { name := "min", desc := "(II)I", sig := { parameters := [.int, .int], returnType := some .int }, accessFlags := 9, code := some k20c2 }
/-- java/lang/Math -/
def k20 : Class := { plain "java/lang/Math" (some 0) with
  accessFlags := 49
  interfaces := #[]
  cf := some (fileOf pool20 1 #[.nestMembers #[98]] #[{ accessFlags := 2, nameIndex := 7, descriptorIndex := 8, attributes := #[] }, { accessFlags := 9, nameIndex := 198, descriptorIndex := 335, attributes := #[] }, { accessFlags := 9, nameIndex := 201, descriptorIndex := 335, attributes := #[] }] 49 4 #[] #[{ accessFlags := 25, nameIndex := 354, descriptorIndex := 339, attributes := #[] }, { accessFlags := 25, nameIndex := 358, descriptorIndex := 339, attributes := #[] }, { accessFlags := 25, nameIndex := 361, descriptorIndex := 339, attributes := #[] }, { accessFlags := 26, nameIndex := 364, descriptorIndex := 339, attributes := #[] }, { accessFlags := 26, nameIndex := 365, descriptorIndex := 339, attributes := #[] }, { accessFlags := 26, nameIndex := 172, descriptorIndex := 173, attributes := #[] }, { accessFlags := 26, nameIndex := 176, descriptorIndex := 173, attributes := #[] }, { accessFlags := 8, nameIndex := 344, descriptorIndex := 339, attributes := #[] }, { accessFlags := 8, nameIndex := 338, descriptorIndex := 339, attributes := #[] }, { accessFlags := 4120, nameIndex := 245, descriptorIndex := 246, attributes := #[] }])
  fields := #[{ name := "E", type := .double, accessFlags := 25, slot := 0, constantValue := 0 }, { name := "PI", type := .double, accessFlags := 25, slot := 1, constantValue := 0 }, { name := "TAU", type := .double, accessFlags := 25, slot := 2, constantValue := 0 }, { name := "DEGREES_TO_RADIANS", type := .double, accessFlags := 26, slot := 3, constantValue := 0 }, { name := "RADIANS_TO_DEGREES", type := .double, accessFlags := 26, slot := 4, constantValue := 0 }, { name := "negativeZeroFloatBits", type := .long, accessFlags := 26, slot := 5, constantValue := 0 }, { name := "negativeZeroDoubleBits", type := .long, accessFlags := 26, slot := 6, constantValue := 0 }, { name := "twoToTheDoubleScaleUp", type := .double, accessFlags := 8, slot := 7, constantValue := 0 }, { name := "twoToTheDoubleScaleDown", type := .double, accessFlags := 8, slot := 8, constantValue := 0 }, { name := "$assertionsDisabled", type := .boolean, accessFlags := 4120, slot := 9, constantValue := 0 }]
  methods := #[k20m0, k20m1, k20m2]
  instanceTypes := #[]
  staticTypes := #[.double, .double, .double, .double, .double, .long, .long, .double, .double, .boolean]
  resolved := Array.replicate 460 none
  statics := none }

def pool21 : Array CpInfo := pool [(9, u "applyAsInt"), (6, .class_ 18), (1, u "java/util/function/IntUnaryOperator"), (0, u "(I)I"), (0, .class_ 21), (0, u "java/lang/Object")] 46

def k21m0 : Method := { name := "applyAsInt", desc := "(I)I", sig := { parameters := [.int], returnType := some .int }, accessFlags := 1025, code := none }
/-- java/util/function/IntUnaryOperator -/
def k21 : Class := { plain "java/util/function/IntUnaryOperator" (some 0) with
  accessFlags := 1537
  interfaces := #[]
  cf := some (fileOf pool21 16 #[] #[{ accessFlags := 1025, nameIndex := 9, descriptorIndex := 19, attributes := #[] }] 1537 20 #[] #[])
  fields := #[]
  methods := #[k21m0]
  instanceTypes := #[]
  staticTypes := #[]
  resolved := Array.replicate 68 none
  statics := none }

def pool22 : Array CpInfo := pool [(2, .class_ 4), (1, u "java/lang/Object"), (0, u "<init>"), (0, u "()V"), (7, .class_ 16), (1, u "java/util/Arrays"), (57, .class_ 76), (1, u "java/util/Arrays$NaturalOrder"), (36, .class_ 115), (1, u "java/util/Arrays$LegacyMergeSort"), (1, u "Z"), (57, .methodref 176 177), (0, .class_ 178), (0, .nameAndType 179 180), (0, u "java/util/Objects"), (0, u "requireNonNull"), (0, u "(Ljava/lang/Object;)Ljava/lang/Object;"), (194, .class_ 376), (0, u "java/util/Arrays$ArrayList"), (68, u "$assertionsDisabled"), (136, .interfaceMethodref 583 584), (0, .class_ 585), (0, .nameAndType 586 587), (0, u "java/util/function/IntUnaryOperator"), (0, u "applyAsInt"), (0, u "(I)I"), (127, u "MIN_ARRAY_SORT_GRAN"), (0, u "I"), (2, u "INSERTIONSORT_THRESHOLD"), (120, u "fill"), (4, u "([II)V"), (61, u "setAll"), (6, u "([ILjava/util/function/IntUnaryOperator;)V"), (60, .class_ 976), (0, u "java/util/Arrays$ArrayItr")] 52

def k22m0 : Method := { name := "<init>", desc := "()V", sig := { parameters := [], returnType := none }, accessFlags := 2, code := none }
def k22c1 : Code := { maxStack := 3, maxLocals := 4, code := jdk_65_method_103_code, exceptionTable := #[], attributes := #[] }
def k22m1 : Method := { name := "fill", desc := "([II)V", sig := { parameters := [(.array .int), .int], returnType := none }, accessFlags := 9, code := some k22c1 }
def k22c2 : Code := { maxStack := 4, maxLocals := 3, code := jdk_65_method_175_code, exceptionTable := #[], attributes := #[] }
def k22m2 : Method := { name := "setAll", desc := "([ILjava/util/function/IntUnaryOperator;)V", sig := { parameters := [(.array .int), (.object "java/util/function/IntUnaryOperator")], returnType := none }, accessFlags := 9, code := some k22c2 }
/-- java/util/Arrays -/
def k22 : Class := { plain "java/util/Arrays" (some 0) with
  accessFlags := 49
  interfaces := #[]
  cf := some (fileOf pool22 14 #[.nestMembers #[975, 375, 113, 74]] #[{ accessFlags := 2, nameIndex := 5, descriptorIndex := 6, attributes := #[] }, { accessFlags := 9, nameIndex := 840, descriptorIndex := 845, attributes := #[] }, { accessFlags := 9, nameIndex := 907, descriptorIndex := 914, attributes := #[] }] 49 2 #[] #[{ accessFlags := 26, nameIndex := 715, descriptorIndex := 716, attributes := #[] }, { accessFlags := 26, nameIndex := 719, descriptorIndex := 716, attributes := #[] }, { accessFlags := 4120, nameIndex := 445, descriptorIndex := 117, attributes := #[] }])
  fields := #[{ name := "MIN_ARRAY_SORT_GRAN", type := .int, accessFlags := 26, slot := 0, constantValue := 0 }, { name := "INSERTIONSORT_THRESHOLD", type := .int, accessFlags := 26, slot := 1, constantValue := 0 }, { name := "$assertionsDisabled", type := .boolean, accessFlags := 4120, slot := 2, constantValue := 0 }]
  methods := #[k22m0, k22m1, k22m2]
  instanceTypes := #[]
  staticTypes := #[.int, .int, .boolean]
  resolved := Array.replicate 1029 none
  statics := none }

def pool23 : Array CpInfo := pool [(2, .class_ 4), (1, u "java/lang/Object"), (0, u "<init>"), (0, u "()V"), (35, .class_ 44), (1, u "java/util/Objects"), (0, u "requireNonNull"), (0, u "(Ljava/lang/Object;)Ljava/lang/Object;")] 137

def k23m0 : Method := { name := "<init>", desc := "()V", sig := { parameters := [], returnType := none }, accessFlags := 2, code := none }
def k23c1 : Code := { maxStack := 2, maxLocals := 1, code := jdk_31_method_10_code, exceptionTable := #[], attributes := #[] }
def k23m1 : Method := { name := "requireNonNull", desc := "(Ljava/lang/Object;)Ljava/lang/Object;", sig := { parameters := [(.object "java/lang/Object")], returnType := some (.object "java/lang/Object") }, accessFlags := 9, code := some k23c1 }
/-- java/util/Objects -/
def k23 : Class := { plain "java/util/Objects" (some 0) with
  accessFlags := 49
  interfaces := #[]
  cf := some (fileOf pool23 42 #[] #[{ accessFlags := 2, nameIndex := 5, descriptorIndex := 6, attributes := #[] }, { accessFlags := 9, nameIndex := 45, descriptorIndex := 46, attributes := #[] }] 49 2 #[] #[])
  fields := #[]
  methods := #[k23m0, k23m1]
  instanceTypes := #[]
  staticTypes := #[]
  resolved := Array.replicate 184 none
  statics := none }

def pool24 : Array CpInfo := pool [(16, .class_ 18), (1, u "java/util/Iterator"), (0, u "hasNext"), (0, u "()Z"), (2, u "next"), (0, u "()Ljava/lang/Object;"), (6, .class_ 32), (0, u "java/lang/Object")] 20

def k24m0 : Method := { name := "hasNext", desc := "()Z", sig := { parameters := [], returnType := some .boolean }, accessFlags := 1025, code := none }
def k24m1 : Method := { name := "next", desc := "()Ljava/lang/Object;", sig := { parameters := [], returnType := some (.object "java/lang/Object") }, accessFlags := 1025, code := none }
/-- java/util/Iterator -/
def k24 : Class := { plain "java/util/Iterator" (some 0) with
  accessFlags := 1537
  interfaces := #[]
  cf := some (fileOf pool24 16 #[] #[{ accessFlags := 1025, nameIndex := 19, descriptorIndex := 20, attributes := #[] }, { accessFlags := 1025, nameIndex := 23, descriptorIndex := 24, attributes := #[] }] 1537 31 #[] #[])
  fields := #[]
  methods := #[k24m0, k24m1]
  instanceTypes := #[]
  staticTypes := #[]
  resolved := Array.replicate 53 none
  statics := none }

def pool25 : Array CpInfo := pool [(1, .fieldref 2 3), (0, .class_ 4), (0, .nameAndType 5 6), (0, u "java/util/ArrayList$Itr"), (0, u "this$0"), (0, u "Ljava/util/ArrayList;"), (0, .methodref 8 9), (0, .class_ 10), (0, .nameAndType 11 12), (0, u "java/lang/Object"), (0, u "<init>"), (0, u "()V"), (0, .fieldref 2 14), (0, .nameAndType 15 16), (0, u "lastRet"), (0, u "I"), (0, .fieldref 18 19), (0, .class_ 20), (0, .nameAndType 21 16), (0, u "java/util/ArrayList"), (0, u "modCount"), (0, .fieldref 2 23), (0, .nameAndType 24 16), (0, u "expectedModCount"), (0, .fieldref 2 26), (0, .nameAndType 27 16), (0, u "cursor"), (0, .fieldref 18 29), (0, .nameAndType 30 16), (0, u "size"), (0, .methodref 2 32), (0, .nameAndType 33 12), (0, u "checkForComodification"), (3, .fieldref 18 38), (0, .nameAndType 39 40), (0, u "elementData"), (0, u "[Ljava/lang/Object;"), (28, .class_ 70), (0, u "java/util/Iterator"), (0, u "(Ljava/util/ArrayList;)V"), (8, u "hasNext"), (0, u "()Z"), (1, u "next"), (0, u "()Ljava/lang/Object;")] 19

def k25c0 : Code := { maxStack := 2, maxLocals := 2, code := jdk_49_method_1_code, exceptionTable := #[], attributes := #[] }
def k25m0 : Method := { name := "<init>", desc := "(Ljava/util/ArrayList;)V", sig := { parameters := [(.object "java/util/ArrayList")], returnType := none }, accessFlags := 0, code := some k25c0 }
def k25c1 : Code := { maxStack := 2, maxLocals := 1, code := jdk_49_method_2_code, exceptionTable := #[], attributes := #[] }
def k25m1 : Method := { name := "hasNext", desc := "()Z", sig := { parameters := [], returnType := some .boolean }, accessFlags := 1, code := some k25c1 }
def k25c2 : Code := { maxStack := 4, maxLocals := 3, code := jdk_49_method_3_code, exceptionTable := #[], attributes := #[] }
def k25m2 : Method := { name := "next", desc := "()Ljava/lang/Object;", sig := { parameters := [], returnType := some (.object "java/lang/Object") }, accessFlags := 1, code := some k25c2 }
def k25c3 : Code := { maxStack := 2, maxLocals := 1, code := jdk_49_method_6_code, exceptionTable := #[], attributes := #[] }
def k25m3 : Method := { name := "checkForComodification", desc := "()V", sig := { parameters := [], returnType := none }, accessFlags := 16, code := some k25c3 }
/-- java/util/ArrayList$Itr -/
def k25 : Class := { plain "java/util/ArrayList$Itr" (some 0) with
  accessFlags := 32
  interfaces := #[24]
  cf := some (fileOf pool25 2 #[.nestHost 18] #[{ accessFlags := 0, nameIndex := 11, descriptorIndex := 71, attributes := #[] }, { accessFlags := 1, nameIndex := 80, descriptorIndex := 81, attributes := #[] }, { accessFlags := 1, nameIndex := 83, descriptorIndex := 84, attributes := #[] }, { accessFlags := 16, nameIndex := 33, descriptorIndex := 12, attributes := #[] }] 32 8 #[69] #[{ accessFlags := 0, nameIndex := 27, descriptorIndex := 16, attributes := #[] }, { accessFlags := 0, nameIndex := 15, descriptorIndex := 16, attributes := #[] }, { accessFlags := 0, nameIndex := 24, descriptorIndex := 16, attributes := #[] }, { accessFlags := 4112, nameIndex := 5, descriptorIndex := 6, attributes := #[] }])
  fields := #[{ name := "cursor", type := .int, accessFlags := 0, slot := 0, constantValue := 0 }, { name := "lastRet", type := .int, accessFlags := 0, slot := 1, constantValue := 0 }, { name := "expectedModCount", type := .int, accessFlags := 0, slot := 2, constantValue := 0 }, { name := "this$0", type := (.object "java/util/ArrayList"), accessFlags := 4112, slot := 3, constantValue := 0 }]
  methods := #[k25m0, k25m1, k25m2, k25m3]
  instanceTypes := #[.int, .int, .int, (.object "java/util/ArrayList")]
  staticTypes := #[]
  resolved := Array.replicate 104 none
  statics := none }

def pool26 : Array CpInfo := pool [(1, .methodref 2 3), (0, .class_ 4), (0, .nameAndType 5 6), (0, u "java/lang/Object"), (0, u "<init>"), (0, u "()V"), (0, .fieldref 8 9), (0, .class_ 10), (0, .nameAndType 11 12), (0, u "com/example/tanglemark/tanglemark/datalog/Relation$Index"), (0, u "columns"), (0, u "[I"), (0, u "([I)V"), (5, .class_ 20), (0, u "com/example/tanglemark/tanglemark/datalog/Relation")] 9

def k26c0 : Code := { maxStack := 2, maxLocals := 2, code := prog_48_method_1_code, exceptionTable := #[], attributes := #[] }
def k26m0 : Method := { name := "<init>", desc := "([I)V", sig := { parameters := [(.array .int)], returnType := none }, accessFlags := 2, code := some k26c0 }
/-- com/example/tanglemark/tanglemark/datalog/Relation$Index -/
def k26 : Class := { plain "com/example/tanglemark/tanglemark/datalog/Relation$Index" (some 0) with
  accessFlags := 1056
  interfaces := #[]
  cf := some (fileOf pool26 8 #[.nestHost 19] #[{ accessFlags := 2, nameIndex := 5, descriptorIndex := 13, attributes := #[] }] 1056 2 #[] #[{ accessFlags := 16, nameIndex := 11, descriptorIndex := 12, attributes := #[] }])
  fields := #[{ name := "columns", type := (.array .int), accessFlags := 16, slot := 0, constantValue := 0 }]
  methods := #[k26m0]
  instanceTypes := #[(.array .int)]
  staticTypes := #[]
  resolved := Array.replicate 30 none
  statics := none }

def pool27 : Array CpInfo := pool [(1, .methodref 2 3), (0, .class_ 4), (0, .nameAndType 5 6), (0, u "com/example/tanglemark/tanglemark/datalog/Relation$Index"), (0, u "<init>"), (0, u "([I)V"), (0, .fieldref 8 9), (0, .class_ 10), (0, .nameAndType 11 12), (0, u "com/example/tanglemark/tanglemark/datalog/Relation$Chains"), (0, u "heads"), (0, u "[I"), (0, .methodref 14 15), (0, .class_ 16), (0, .nameAndType 17 18), (0, u "java/util/Arrays"), (0, u "fill"), (0, u "([II)V"), (0, .fieldref 8 20), (0, .nameAndType 21 12), (0, u "next"), (5, .class_ 28), (0, u "com/example/tanglemark/tanglemark/datalog/Relation")] 3

def k27c0 : Code := { maxStack := 2, maxLocals := 2, code := prog_46_method_1_code, exceptionTable := #[], attributes := #[] }
def k27m0 : Method := { name := "<init>", desc := "([I)V", sig := { parameters := [(.array .int)], returnType := none }, accessFlags := 2, code := some k27c0 }
/-- com/example/tanglemark/tanglemark/datalog/Relation$Chains -/
def k27 : Class := { plain "com/example/tanglemark/tanglemark/datalog/Relation$Chains" (some 26) with
  accessFlags := 48
  interfaces := #[]
  cf := some (fileOf pool27 8 #[.nestHost 27] #[{ accessFlags := 2, nameIndex := 5, descriptorIndex := 6, attributes := #[] }] 48 2 #[] #[{ accessFlags := 2, nameIndex := 11, descriptorIndex := 12, attributes := #[] }, { accessFlags := 2, nameIndex := 21, descriptorIndex := 12, attributes := #[] }])
  fields := #[{ name := "heads", type := (.array .int), accessFlags := 2, slot := 1, constantValue := 0 }, { name := "next", type := (.array .int), accessFlags := 2, slot := 2, constantValue := 0 }]
  methods := #[k27m0]
  instanceTypes := #[(.array .int), (.array .int), (.array .int)]
  staticTypes := #[]
  resolved := Array.replicate 32 none
  statics := none }

def pool28 : Array CpInfo := pool [(2, .class_ 4), (1, u "java/lang/Object"), (0, u "<init>"), (0, u "()V"), (1, .class_ 10), (1, u "java/lang/System"), (0, u "allowSecurityManager"), (0, u "I"), (16, u "cons"), (0, u "Ljava/io/Console;"), (77, .class_ 110), (1, u "java/lang/System$CallersHolder"), (43, u "initialErrStream"), (0, u "Ljava/io/PrintStream;"), (19, u "security"), (0, u "Ljava/lang/SecurityManager;"), (31, .class_ 209), (0, u "java/lang/System$1"), (7, u "props"), (0, u "Ljava/util/Properties;"), (2, u "lineSeparator"), (0, u "Ljava/lang/String;"), (96, .class_ 321), (1, u "java/lang/System$LoggerFinder"), (5, .class_ 328), (0, u "java/lang/System$Logger"), (67, u "err"), (2, u "out"), (91, u "notSupportedJnuEncoding"), (15, u "in"), (17, u "initialIn"), (0, u "Ljava/io/InputStream;"), (35, u "bootLayer"), (0, u "Ljava/lang/ModuleLayer;"), (99, .class_ 664), (0, u "java/lang/System$2"), (9, u "NEVER"), (2, u "MAYBE"), (49, u "arraycopy"), (0, u "(Ljava/lang/Object;ILjava/lang/Object;II)V"), (72, .class_ 802), (0, u "java/lang/System$Logger$Level")] 31

def k28m0 : Method := { name := "<init>", desc := "()V", sig := { parameters := [], returnType := none }, accessFlags := 2, code := none }
def k28m1 : Method := { name := "arraycopy", desc := "(Ljava/lang/Object;ILjava/lang/Object;II)V", sig := { parameters := [(.object "java/lang/Object"), .int, (.object "java/lang/Object"), .int, .int], returnType := none }, accessFlags := 265, code := none }
/-- java/lang/System -/
def k28 : Class := { plain "java/lang/System" (some 0) with
  accessFlags := 49
  interfaces := #[]
  cf := some (fileOf pool28 8 #[.nestMembers #[319, 327, 801, 108, 663, 208]] #[{ accessFlags := 2, nameIndex := 5, descriptorIndex := 6, attributes := #[] }, { accessFlags := 265, nameIndex := 727, descriptorIndex := 728, attributes := #[] }] 49 2 #[] #[{ accessFlags := 25, nameIndex := 507, descriptorIndex := 526, attributes := #[] }, { accessFlags := 25, nameIndex := 399, descriptorIndex := 155, attributes := #[] }, { accessFlags := 25, nameIndex := 396, descriptorIndex := 155, attributes := #[] }, { accessFlags := 10, nameIndex := 525, descriptorIndex := 526, attributes := #[] }, { accessFlags := 26, nameIndex := 674, descriptorIndex := 12, attributes := #[] }, { accessFlags := 26, nameIndex := 677, descriptorIndex := 12, attributes := #[] }, { accessFlags := 10, nameIndex := 11, descriptorIndex := 12, attributes := #[] }, { accessFlags := 74, nameIndex := 175, descriptorIndex := 176, attributes := #[] }, { accessFlags := 10, nameIndex := 491, descriptorIndex := 222, attributes := #[] }, { accessFlags := 74, nameIndex := 29, descriptorIndex := 30, attributes := #[] }, { accessFlags := 74, nameIndex := 154, descriptorIndex := 155, attributes := #[] }, { accessFlags := 10, nameIndex := 217, descriptorIndex := 218, attributes := #[] }, { accessFlags := 10, nameIndex := 221, descriptorIndex := 222, attributes := #[] }, { accessFlags := 8, nameIndex := 562, descriptorIndex := 563, attributes := #[] }])
  fields := #[{ name := "in", type := (.object "java/io/InputStream"), accessFlags := 25, slot := 0, constantValue := 0 }, { name := "out", type := (.object "java/io/PrintStream"), accessFlags := 25, slot := 1, constantValue := 0 }, { name := "err", type := (.object "java/io/PrintStream"), accessFlags := 25, slot := 2, constantValue := 0 }, { name := "initialIn", type := (.object "java/io/InputStream"), accessFlags := 10, slot := 3, constantValue := 0 }, { name := "NEVER", type := .int, accessFlags := 26, slot := 4, constantValue := 0 }, { name := "MAYBE", type := .int, accessFlags := 26, slot := 5, constantValue := 0 }, { name := "allowSecurityManager", type := .int, accessFlags := 10, slot := 6, constantValue := 0 }, { name := "security", type := (.object "java/lang/SecurityManager"), accessFlags := 74, slot := 7, constantValue := 0 }, { name := "notSupportedJnuEncoding", type := (.object "java/lang/String"), accessFlags := 10, slot := 8, constantValue := 0 }, { name := "cons", type := (.object "java/io/Console"), accessFlags := 74, slot := 9, constantValue := 0 }, { name := "initialErrStream", type := (.object "java/io/PrintStream"), accessFlags := 74, slot := 10, constantValue := 0 }, { name := "props", type := (.object "java/util/Properties"), accessFlags := 10, slot := 11, constantValue := 0 }, { name := "lineSeparator", type := (.object "java/lang/String"), accessFlags := 10, slot := 12, constantValue := 0 }, { name := "bootLayer", type := (.object "java/lang/ModuleLayer"), accessFlags := 8, slot := 13, constantValue := 0 }]
  methods := #[k28m0, k28m1]
  instanceTypes := #[]
  staticTypes := #[(.object "java/io/InputStream"), (.object "java/io/PrintStream"), (.object "java/io/PrintStream"), (.object "java/io/InputStream"), .int, .int, .int, (.object "java/lang/SecurityManager"), (.object "java/lang/String"), (.object "java/io/Console"), (.object "java/io/PrintStream"), (.object "java/util/Properties"), (.object "java/lang/String"), (.object "java/lang/ModuleLayer")]
  resolved := Array.replicate 834 none
  statics := none }

/-- the primitive byte -/
def k29 : Class := { plain "byte" none with kind := .primitive 'B', accessFlags := 0x411 }
/-- [B -/
def k30 : Class := { plain "[B" (some 0) with kind := .array 29 .byte, interfaces := #[16, 3], accessFlags := 1041 }

/-- the primitive int -/
def k31 : Class := { plain "int" none with kind := .primitive 'I', accessFlags := 0x411 }
/-- [I -/
def k32 : Class := { plain "[I" (some 0) with kind := .array 31 .int, interfaces := #[16, 3], accessFlags := 1041 }

/-- [Ljava/lang/Object; -/
def k33 : Class := { plain "[Ljava/lang/Object;" (some 0) with kind := .array 0 (.object "java/lang/Object"), interfaces := #[16, 3], accessFlags := 1041 }

def classes0 : Array Class := #[k0, k1, k2, k3, k4, k5, k6, k7, k8, k9, k10, k11, k12, k13, k14, k15, k16, k17, k18, k19, k20, k21, k22, k23, k24, k25, k26, k27, k28, k29, k30, k31, k32, k33]
/-- the class that the rule has made for the site at 63 of com/example/tanglemark/tanglemark/datalog/Relation.<init> -/
def k34 : Class := Jvm.LamKit.madeRec { classes := classes0 } "com/example/tanglemark/tanglemark/datalog/Relation" (Jvm.Lambda.Shape.mk "java/util/function/IntUnaryOperator" "applyAsInt" (Jvm.ClassFile.MethodDescriptor.mk ([Jvm.ClassFile.FieldType.int] : List Jvm.ClassFile.FieldType) (Option.some Jvm.ClassFile.FieldType.int)) ([] : List Jvm.ClassFile.FieldType) (6 : Nat) "com/example/tanglemark/tanglemark/datalog/Relation" "lambda$new$0" (Jvm.ClassFile.MethodDescriptor.mk ([Jvm.ClassFile.FieldType.int] : List Jvm.ClassFile.FieldType) (Option.some Jvm.ClassFile.FieldType.int)) false (Jvm.ClassFile.MethodDescriptor.mk ([Jvm.ClassFile.FieldType.int] : List Jvm.ClassFile.FieldType) (Option.some Jvm.ClassFile.FieldType.int))) 34

def heap : Heap := #[{ cls := 17, slots := #[.long 0, .int 0, .ref 2, .ref 3], vm := .statics 17 },
  { cls := 34, slots := #[], vm := .none },
  { cls := 33, slots := #[], vm := .none },
  { cls := 33, slots := #[], vm := .none }]
def classes : Array Class := #[k0, k1, k2, k3, k4, k5, k6, k7, k8, k9, k10, k11, k12, k13, k14, k15, k16, k17, k18, k19, k20, k21, k22, k23, k24, k25, k26, k27, k28, k29, k30, k31, k32, k33, k34]
def interned : List (Array UInt16 × Addr) := []
def slotsUsed : Nat := 4
def theMethod : MethodId := ⟨1, 1⟩
def args0 : Array Value := #[.int 5, .int 6, .int 7, .int 8, .int 9, .int 10]
def aboutOver (below : List Frame) : State where
  vm := { classes := classes, interned := interned.toArray }
  heap := heap
  slotsUsed := slotsUsed
  threads := #[{ frames := .invoking theMethod args0 :: below }]
def below0 : List Frame := [.native { method := ⟨0, 0⟩, args := #[] }]
def about1 : State := aboutOver below0
def p0 : Program := .bare "" "" ""
def e0 : Env := launch0.env 0 0 0
theorem w_frames : about1.frames = Frame.invoking theMethod args0 :: below0 := rfl
set_option maxRecDepth 65536 in
theorem w_args : argsFit about1.vm theMethod args0 = true := by decide +kernel
set_option maxRecDepth 65536 in
theorem w_heap : heapFits about1 = true := by decide +kernel
set_option maxRecDepth 65536 in
theorem w_runnable : about1.curStatus? = some .runnable := by decide +kernel
set_option maxRecDepth 65536 in
theorem w_alone : about1.alone = true := by decide +kernel
set_option maxRecDepth 65536 in
theorem w_named : about1.methodNamed? x = some theMethod := by decide +kernel
set_option maxRecDepth 65536 in
theorem w_hears : about1.hears theMethod below0 = true := by decide +kernel
set_option maxRecDepth 65536 in
theorem w_ripe : about1.ripe theMethod args0 below0 = true := by decide +kernel
theorem w_running : about1.status = .running := rfl
set_option maxRecDepth 65536 in
theorem w_room : about1.hasRoom e0.platform room_1 = true :=
  launch0.hasRoom_least _ room_1 (by decide +kernel) (by decide +kernel) (by decide +kernel) (by decide +kernel) (by decide +kernel) (by decide +kernel)
theorem allAtoms_all (ts : List Jvm.Cond) (a : Array Jvm.Value) (st : Jvm.State) : (allAtoms ts).before a st = ts.all (fun c => c.before a st) := by
  induction ts with
  | nil => rfl
  | cons c t ih =>
    show (Jvm.Cond.and c (allAtoms t)).before a st = _
    rw [Jvm.Cond.before_and, ih, List.all_cons]
def words1 : List Jvm.Cond := Jvm.Cond.code x code maxLocals ret :: tables_1
/-- a 'code' word, met by the world's own term for the bytes: nothing is compared byte by byte -/
theorem code_word {y : MethodName} {bytes : ByteArray} {mx : Nat} {rt : Option FieldType} {a : Array Value} {s : State} {m : MethodId} {meth : Method} {c : Code} (h1 : s.methodNamed? y = some m) (h2 : s.vm.method? m = some meth) (h3 : meth.code = some c) (h4 : c.code = bytes)
    (h5 : (c.maxLocals == mx && c.exceptionTable.isEmpty && decide (c.maxStack ≤ mostOperands) && decide (meth.sig.returnType = rt) && !meth.locks && decide (parseMethodDescriptor y.desc = some meth.sig)) = true) : (Jvm.Cond.code y bytes mx rt).before a s = true := by
  simp only [Bool.and_eq_true, beq_iff_eq, Bool.not_eq_true', decide_eq_true_eq] at h5
  obtain ⟨⟨⟨⟨⟨g1, g2⟩, g3⟩, g4⟩, g5⟩, g6⟩ := h5
  simp [Cond.before, Cond.holds, Cond.value, h1, h2, h3, h4, g1, g2, g3, g4, g5, g6]
def isCode : Jvm.Cond → Bool
  | .code _ _ _ _ => true
  | _ => false
theorem all_split {L : List Jvm.Cond} {P : Jvm.Cond → Bool} (h1 : L.all (fun c => isCode c || P c) = true) (h2 : ∀ c ∈ L.filter isCode, P c = true) : L.all P = true := by
  refine List.all_eq_true.mpr fun c hc => ?_
  have h := List.all_eq_true.mp h1 c hc
  rcases Bool.eq_false_or_eq_true (isCode c) with hi | hi
  · exact h2 c (List.mem_filter.mpr ⟨hc, hi⟩)
  · simpa [hi] using h
set_option maxRecDepth 65536 in
theorem w_c0 : (Jvm.Cond.code x code maxLocals ret).before args0 about1 = true := code_word (m := ⟨1, 1⟩) (meth := k1m1) (c := k1c1) (by decide +kernel) rfl rfl rfl (by decide +kernel)
set_option maxRecDepth 65536 in
theorem w_c1 : (Jvm.Cond.code ({ cls := "com/example/tanglemark/tanglemark/datalog/Relation", name := "<init>", desc := "(Ljava/lang/String;I)V" } : Jvm.MethodName) prog_45_method_1_code (3 : Nat) (Option.none : Option Jvm.ClassFile.FieldType)).before args0 about1 = true := code_word (m := ⟨2, 0⟩) (meth := k2m0) (c := k2c0) (by decide +kernel) rfl rfl rfl (by decide +kernel)
set_option maxRecDepth 65536 in
theorem w_c2 : (Jvm.Cond.code ({ cls := "com/example/tanglemark/tanglemark/datalog/Relation", name := "<init>", desc := "(Ljava/lang/String;II)V" } : Jvm.MethodName) prog_45_method_2_code (4 : Nat) (Option.none : Option Jvm.ClassFile.FieldType)).before args0 about1 = true := code_word (m := ⟨2, 1⟩) (meth := k2m1) (c := k2c1) (by decide +kernel) rfl rfl rfl (by decide +kernel)
set_option maxRecDepth 65536 in
theorem w_c3 : (Jvm.Cond.code ({ cls := "java/lang/Object", name := "<init>", desc := "()V" } : Jvm.MethodName) object_method_1_code (1 : Nat) (Option.none : Option Jvm.ClassFile.FieldType)).before args0 about1 = true := code_word (m := ⟨0, 0⟩) (meth := k0m0) (c := k0c0) (by decide +kernel) rfl rfl rfl (by decide +kernel)
set_option maxRecDepth 65536 in
theorem w_c4 : (Jvm.Cond.code ({ cls := "java/util/ArrayList", name := "<init>", desc := "()V" } : Jvm.MethodName) jdk_38_method_2_code (1 : Nat) (Option.none : Option Jvm.ClassFile.FieldType)).before args0 about1 = true := code_word (m := ⟨17, 0⟩) (meth := k17m0) (c := k17c0) (by decide +kernel) rfl rfl rfl (by decide +kernel)
set_option maxRecDepth 65536 in
theorem w_c5 : (Jvm.Cond.code ({ cls := "java/util/AbstractList", name := "<init>", desc := "()V" } : Jvm.MethodName) jdk_39_method_1_code (1 : Nat) (Option.none : Option Jvm.ClassFile.FieldType)).before args0 about1 = true := code_word (m := ⟨14, 0⟩) (meth := k14m0) (c := k14c0) (by decide +kernel) rfl rfl rfl (by decide +kernel)
set_option maxRecDepth 65536 in
theorem w_c6 : (Jvm.Cond.code ({ cls := "java/util/AbstractCollection", name := "<init>", desc := "()V" } : Jvm.MethodName) jdk_22_method_1_code (1 : Nat) (Option.none : Option Jvm.ClassFile.FieldType)).before args0 about1 = true := code_word (m := ⟨11, 0⟩) (meth := k11m0) (c := k11c0) (by decide +kernel) rfl rfl rfl (by decide +kernel)
set_option maxRecDepth 65536 in
theorem w_c7 : (Jvm.Cond.code ({ cls := "java/lang/Integer", name := "highestOneBit", desc := "(I)I" } : Jvm.MethodName) jdk_33_method_45_code (1 : Nat) (Option.some Jvm.ClassFile.FieldType.int)).before args0 about1 = true := code_word (m := ⟨19, 0⟩) (meth := k19m0) (c := k19c0) (by decide +kernel) rfl rfl rfl (by decide +kernel)
set_option maxRecDepth 65536 in
theorem w_c8 : (Jvm.Cond.code ({ cls := "java/lang/Integer", name := "numberOfLeadingZeros", desc := "(I)I" } : Jvm.MethodName) jdk_33_method_47_code (2 : Nat) (Option.some Jvm.ClassFile.FieldType.int)).before args0 about1 = true := code_word (m := ⟨19, 1⟩) (meth := k19m1) (c := k19c1) (by decide +kernel) rfl rfl rfl (by decide +kernel)
set_option maxRecDepth 65536 in
theorem w_c9 : (Jvm.Cond.code ({ cls := "java/lang/Math", name := "min", desc := "(II)I" } : Jvm.MethodName) jdk_29_method_69_code (2 : Nat) (Option.some Jvm.ClassFile.FieldType.int)).before args0 about1 = true := code_word (m := ⟨20, 2⟩) (meth := k20m2) (c := k20c2) (by decide +kernel) rfl rfl rfl (by decide +kernel)
set_option maxRecDepth 65536 in
theorem w_c10 : (Jvm.Cond.code ({ cls := "java/util/Arrays", name := "setAll", desc := "([ILjava/util/function/IntUnaryOperator;)V" } : Jvm.MethodName) jdk_65_method_175_code (3 : Nat) (Option.none : Option Jvm.ClassFile.FieldType)).before args0 about1 = true := code_word (m := ⟨22, 2⟩) (meth := k22m2) (c := k22c2) (by decide +kernel) rfl rfl rfl (by decide +kernel)
set_option maxRecDepth 65536 in
theorem w_c11 : (Jvm.Cond.code ({ cls := "java/util/Objects", name := "requireNonNull", desc := "(Ljava/lang/Object;)Ljava/lang/Object;" } : Jvm.MethodName) jdk_31_method_10_code (1 : Nat) (Option.some (Jvm.ClassFile.FieldType.object "java/lang/Object"))).before args0 about1 = true := code_word (m := ⟨23, 1⟩) (meth := k23m1) (c := k23c1) (by decide +kernel) rfl rfl rfl (by decide +kernel)
set_option maxRecDepth 65536 in
theorem w_c12 : (Jvm.Cond.code ({ cls := "com/example/tanglemark/tanglemark/datalog/Relation", name := "lambda$new$0", desc := "(I)I" } : Jvm.MethodName) prog_45_method_36_code (1 : Nat) (Option.some Jvm.ClassFile.FieldType.int)).before args0 about1 = true := code_word (m := ⟨2, 19⟩) (meth := k2m19) (c := k2c19) (by decide +kernel) rfl rfl rfl (by decide +kernel)
set_option maxRecDepth 65536 in
theorem w_c13 : (Jvm.Cond.code ({ cls := "com/example/tanglemark/tanglemark/datalog/Relation", name := "index", desc := "([I)Lcom/example/tanglemark/tanglemark/datalog/Relation$Index;" } : Jvm.MethodName) prog_45_method_21_code (5 : Nat) (Option.some (Jvm.ClassFile.FieldType.object "com/example/tanglemark/tanglemark/datalog/Relation$Index"))).before args0 about1 = true := code_word (m := ⟨2, 10⟩) (meth := k2m10) (c := k2c10) (by decide +kernel) rfl rfl rfl (by decide +kernel)
set_option maxRecDepth 65536 in
theorem w_c14 : (Jvm.Cond.code ({ cls := "java/util/ArrayList", name := "iterator", desc := "()Ljava/util/Iterator;" } : Jvm.MethodName) jdk_38_method_55_code (1 : Nat) (Option.some (Jvm.ClassFile.FieldType.object "java/util/Iterator"))).before args0 about1 = true := code_word (m := ⟨17, 5⟩) (meth := k17m5) (c := k17c5) (by decide +kernel) rfl rfl rfl (by decide +kernel)
set_option maxRecDepth 65536 in
theorem w_c15 : (Jvm.Cond.code ({ cls := "java/util/ArrayList$Itr", name := "<init>", desc := "(Ljava/util/ArrayList;)V" } : Jvm.MethodName) jdk_49_method_1_code (2 : Nat) (Option.none : Option Jvm.ClassFile.FieldType)).before args0 about1 = true := code_word (m := ⟨25, 0⟩) (meth := k25m0) (c := k25c0) (by decide +kernel) rfl rfl rfl (by decide +kernel)
set_option maxRecDepth 65536 in
theorem w_c16 : (Jvm.Cond.code ({ cls := "java/util/ArrayList$Itr", name := "hasNext", desc := "()Z" } : Jvm.MethodName) jdk_49_method_2_code (1 : Nat) (Option.some Jvm.ClassFile.FieldType.boolean)).before args0 about1 = true := code_word (m := ⟨25, 1⟩) (meth := k25m1) (c := k25c1) (by decide +kernel) rfl rfl rfl (by decide +kernel)
set_option maxRecDepth 65536 in
theorem w_c17 : (Jvm.Cond.code ({ cls := "com/example/tanglemark/tanglemark/datalog/Relation$Chains", name := "<init>", desc := "([I)V" } : Jvm.MethodName) prog_46_method_1_code (2 : Nat) (Option.none : Option Jvm.ClassFile.FieldType)).before args0 about1 = true := code_word (m := ⟨27, 0⟩) (meth := k27m0) (c := k27c0) (by decide +kernel) rfl rfl rfl (by decide +kernel)
set_option maxRecDepth 65536 in
theorem w_c18 : (Jvm.Cond.code ({ cls := "com/example/tanglemark/tanglemark/datalog/Relation$Index", name := "<init>", desc := "([I)V" } : Jvm.MethodName) prog_48_method_1_code (2 : Nat) (Option.none : Option Jvm.ClassFile.FieldType)).before args0 about1 = true := code_word (m := ⟨26, 0⟩) (meth := k26m0) (c := k26c0) (by decide +kernel) rfl rfl rfl (by decide +kernel)
set_option maxRecDepth 65536 in
theorem w_c19 : (Jvm.Cond.code ({ cls := "java/util/Arrays", name := "fill", desc := "([II)V" } : Jvm.MethodName) jdk_65_method_103_code (4 : Nat) (Option.none : Option Jvm.ClassFile.FieldType)).before args0 about1 = true := code_word (m := ⟨22, 1⟩) (meth := k22m1) (c := k22c1) (by decide +kernel) rfl rfl rfl (by decide +kernel)
set_option maxRecDepth 65536 in
theorem w_c20 : (Jvm.Cond.code ({ cls := "java/util/ArrayList", name := "add", desc := "(Ljava/lang/Object;)Z" } : Jvm.MethodName) jdk_38_method_25_code (2 : Nat) (Option.some Jvm.ClassFile.FieldType.boolean)).before args0 about1 = true := code_word (m := ⟨17, 4⟩) (meth := k17m4) (c := k17c4) (by decide +kernel) rfl rfl rfl (by decide +kernel)
set_option maxRecDepth 65536 in
theorem w_c21 : (Jvm.Cond.code ({ cls := "java/util/ArrayList", name := "add", desc := "(Ljava/lang/Object;[Ljava/lang/Object;I)V" } : Jvm.MethodName) jdk_38_method_24_code (4 : Nat) (Option.none : Option Jvm.ClassFile.FieldType)).before args0 about1 = true := code_word (m := ⟨17, 3⟩) (meth := k17m3) (c := k17c3) (by decide +kernel) rfl rfl rfl (by decide +kernel)
set_option maxRecDepth 65536 in
theorem w_c22 : (Jvm.Cond.code ({ cls := "java/util/ArrayList", name := "grow", desc := "()[Ljava/lang/Object;" } : Jvm.MethodName) jdk_38_method_7_code (1 : Nat) (Option.some (Jvm.ClassFile.FieldType.array (Jvm.ClassFile.FieldType.object "java/lang/Object")))).before args0 about1 = true := code_word (m := ⟨17, 2⟩) (meth := k17m2) (c := k17c2) (by decide +kernel) rfl rfl rfl (by decide +kernel)
set_option maxRecDepth 65536 in
theorem w_c23 : (Jvm.Cond.code ({ cls := "java/util/ArrayList", name := "grow", desc := "(I)[Ljava/lang/Object;" } : Jvm.MethodName) jdk_38_method_6_code (4 : Nat) (Option.some (Jvm.ClassFile.FieldType.array (Jvm.ClassFile.FieldType.object "java/lang/Object")))).before args0 about1 = true := code_word (m := ⟨17, 1⟩) (meth := k17m1) (c := k17c1) (by decide +kernel) rfl rfl rfl (by decide +kernel)
set_option maxRecDepth 65536 in
theorem w_c24 : (Jvm.Cond.code ({ cls := "java/lang/Math", name := "max", desc := "(II)I" } : Jvm.MethodName) jdk_29_method_65_code (2 : Nat) (Option.some Jvm.ClassFile.FieldType.int)).before args0 about1 = true := code_word (m := ⟨20, 1⟩) (meth := k20m1) (c := k20c1) (by decide +kernel) rfl rfl rfl (by decide +kernel)
set_option maxRecDepth 65536 in
theorem w_c25 : (Jvm.Cond.code ({ cls := "com/example/tanglemark/tanglemark/datalog/Relation", name := "add", desc := "([I)Z" } : Jvm.MethodName) prog_45_method_8_code (2 : Nat) (Option.some Jvm.ClassFile.FieldType.boolean)).before args0 about1 = true := code_word (m := ⟨2, 3⟩) (meth := k2m3) (c := k2c3) (by decide +kernel) rfl rfl rfl (by decide +kernel)
set_option maxRecDepth 65536 in
theorem w_c26 : (Jvm.Cond.code ({ cls := "com/example/tanglemark/tanglemark/datalog/Relation", name := "contains", desc := "([I)Z" } : Jvm.MethodName) prog_45_method_13_code (2 : Nat) (Option.some Jvm.ClassFile.FieldType.boolean)).before args0 about1 = true := code_word (m := ⟨2, 5⟩) (meth := k2m5) (c := k2c5) (by decide +kernel) rfl rfl rfl (by decide +kernel)
set_option maxRecDepth 65536 in
theorem w_c27 : (Jvm.Cond.code ({ cls := "com/example/tanglemark/tanglemark/datalog/Relation", name := "row", desc := "([I)I" } : Jvm.MethodName) prog_45_method_14_code (2 : Nat) (Option.some Jvm.ClassFile.FieldType.int)).before args0 about1 = true := code_word (m := ⟨2, 6⟩) (meth := k2m6) (c := k2c6) (by decide +kernel) rfl rfl rfl (by decide +kernel)
set_option maxRecDepth 65536 in
theorem w_c28 : (Jvm.Cond.code ({ cls := "com/example/tanglemark/tanglemark/datalog/Relation", name := "requireOpen", desc := "()V" } : Jvm.MethodName) prog_45_method_16_code (1 : Nat) (Option.none : Option Jvm.ClassFile.FieldType)).before args0 about1 = true := code_word (m := ⟨2, 8⟩) (meth := k2m8) (c := k2c8) (by decide +kernel) rfl rfl rfl (by decide +kernel)
set_option maxRecDepth 65536 in
theorem w_c29 : (Jvm.Cond.code ({ cls := "com/example/tanglemark/tanglemark/datalog/Relation", name := "newest", desc := "(Lcom/example/tanglemark/tanglemark/datalog/Relation$Chains;[II)I" } : Jvm.MethodName) prog_45_method_15_code (5 : Nat) (Option.some Jvm.ClassFile.FieldType.int)).before args0 about1 = true := code_word (m := ⟨2, 7⟩) (meth := k2m7) (c := k2c7) (by decide +kernel) rfl rfl rfl (by decide +kernel)
set_option maxRecDepth 65536 in
theorem w_c30 : (Jvm.Cond.code ({ cls := "com/example/tanglemark/tanglemark/datalog/Relation", name := "hash", desc := "([I)I" } : Jvm.MethodName) prog_45_method_30_code (6 : Nat) (Option.some Jvm.ClassFile.FieldType.int)).before args0 about1 = true := code_word (m := ⟨2, 13⟩) (meth := k2m13) (c := k2c13) (by decide +kernel) rfl rfl rfl (by decide +kernel)
set_option maxRecDepth 65536 in
theorem w_c31 : (Jvm.Cond.code ({ cls := "com/example/tanglemark/tanglemark/datalog/Relation", name := "mix", desc := "(II)I" } : Jvm.MethodName) prog_45_method_32_code (2 : Nat) (Option.some Jvm.ClassFile.FieldType.int)).before args0 about1 = true := code_word (m := ⟨2, 15⟩) (meth := k2m15) (c := k2c15) (by decide +kernel) rfl rfl rfl (by decide +kernel)
set_option maxRecDepth 65536 in
theorem w_c32 : (Jvm.Cond.code ({ cls := "com/example/tanglemark/tanglemark/datalog/Relation", name := "finish", desc := "(I)I" } : Jvm.MethodName) prog_45_method_33_code (1 : Nat) (Option.some Jvm.ClassFile.FieldType.int)).before args0 about1 = true := code_word (m := ⟨2, 16⟩) (meth := k2m16) (c := k2c16) (by decide +kernel) rfl rfl rfl (by decide +kernel)
set_option maxRecDepth 65536 in
theorem w_c33 : (Jvm.Cond.code ({ cls := "com/example/tanglemark/tanglemark/datalog/Relation", name := "first", desc := "(Lcom/example/tanglemark/tanglemark/datalog/Relation$Chains;I)I" } : Jvm.MethodName) prog_45_method_28_code (2 : Nat) (Option.some Jvm.ClassFile.FieldType.int)).before args0 about1 = true := code_word (m := ⟨2, 11⟩) (meth := k2m11) (c := k2c11) (by decide +kernel) rfl rfl rfl (by decide +kernel)
set_option maxRecDepth 65536 in
theorem w_c34 : (Jvm.Cond.code ({ cls := "com/example/tanglemark/tanglemark/datalog/Relation", name := "append", desc := "([I)V" } : Jvm.MethodName) prog_45_method_9_code (5 : Nat) (Option.none : Option Jvm.ClassFile.FieldType)).before args0 about1 = true := code_word (m := ⟨2, 4⟩) (meth := k2m4) (c := k2c4) (by decide +kernel) rfl rfl rfl (by decide +kernel)
set_option maxRecDepth 65536 in
theorem w_c35 : (Jvm.Cond.code ({ cls := "java/util/ArrayList$Itr", name := "next", desc := "()Ljava/lang/Object;" } : Jvm.MethodName) jdk_49_method_3_code (3 : Nat) (Option.some (Jvm.ClassFile.FieldType.object "java/lang/Object"))).before args0 about1 = true := code_word (m := ⟨25, 2⟩) (meth := k25m2) (c := k25c2) (by decide +kernel) rfl rfl rfl (by decide +kernel)
set_option maxRecDepth 65536 in
theorem w_c36 : (Jvm.Cond.code ({ cls := "java/util/ArrayList$Itr", name := "checkForComodification", desc := "()V" } : Jvm.MethodName) jdk_49_method_6_code (1 : Nat) (Option.none : Option Jvm.ClassFile.FieldType)).before args0 about1 = true := code_word (m := ⟨25, 3⟩) (meth := k25m3) (c := k25c3) (by decide +kernel) rfl rfl rfl (by decide +kernel)
set_option maxRecDepth 65536 in
theorem w_c37 : (Jvm.Cond.code ({ cls := "com/example/tanglemark/tanglemark/datalog/Relation", name := "insert", desc := "(Lcom/example/tanglemark/tanglemark/datalog/Relation$Chains;I)V" } : Jvm.MethodName) prog_45_method_34_code (4 : Nat) (Option.none : Option Jvm.ClassFile.FieldType)).before args0 about1 = true := code_word (m := ⟨2, 17⟩) (meth := k2m17) (c := k2c17) (by decide +kernel) rfl rfl rfl (by decide +kernel)
set_option maxRecDepth 65536 in
theorem w_c38 : (Jvm.Cond.code ({ cls := "com/example/tanglemark/tanglemark/datalog/Relation", name := "link", desc := "(Lcom/example/tanglemark/tanglemark/datalog/Relation$Chains;I)V" } : Jvm.MethodName) prog_45_method_35_code (4 : Nat) (Option.none : Option Jvm.ClassFile.FieldType)).before args0 about1 = true := code_word (m := ⟨2, 18⟩) (meth := k2m18) (c := k2c18) (by decide +kernel) rfl rfl rfl (by decide +kernel)
set_option maxRecDepth 65536 in
theorem w_c39 : (Jvm.Cond.code ({ cls := "com/example/tanglemark/tanglemark/datalog/Relation", name := "hashRow", desc := "([II)I" } : Jvm.MethodName) prog_45_method_31_code (8 : Nat) (Option.some Jvm.ClassFile.FieldType.int)).before args0 about1 = true := code_word (m := ⟨2, 14⟩) (meth := k2m14) (c := k2c14) (by decide +kernel) rfl rfl rfl (by decide +kernel)
set_option maxRecDepth 65536 in
theorem w_c40 : (Jvm.Cond.code ({ cls := "com/example/tanglemark/tanglemark/datalog/Relation", name := "hasKey", desc := "(I[I[I)Z" } : Jvm.MethodName) prog_45_method_17_code (6 : Nat) (Option.some Jvm.ClassFile.FieldType.boolean)).before args0 about1 = true := code_word (m := ⟨2, 9⟩) (meth := k2m9) (c := k2c9) (by decide +kernel) rfl rfl rfl (by decide +kernel)
set_option maxRecDepth 65536 in
theorem w_c41 : (Jvm.Cond.code ({ cls := "com/example/tanglemark/tanglemark/datalog/Relation", name := "size", desc := "()I" } : Jvm.MethodName) prog_45_method_5_code (1 : Nat) (Option.some Jvm.ClassFile.FieldType.int)).before args0 about1 = true := code_word (m := ⟨2, 2⟩) (meth := k2m2) (c := k2c2) (by decide +kernel) rfl rfl rfl (by decide +kernel)
set_option maxRecDepth 65536 in
theorem w_c42 : (Jvm.Cond.code ({ cls := "com/example/tanglemark/tanglemark/datalog/Relation", name := "next", desc := "(Lcom/example/tanglemark/tanglemark/datalog/Relation$Chains;I)I" } : Jvm.MethodName) prog_45_method_29_code (2 : Nat) (Option.some Jvm.ClassFile.FieldType.int)).before args0 about1 = true := code_word (m := ⟨2, 12⟩) (meth := k2m12) (c := k2c12) (by decide +kernel) rfl rfl rfl (by decide +kernel)
def codes1 : List Jvm.Cond := [Jvm.Cond.code x code maxLocals ret, Jvm.Cond.code ({ cls := "com/example/tanglemark/tanglemark/datalog/Relation", name := "<init>", desc := "(Ljava/lang/String;I)V" } : Jvm.MethodName) prog_45_method_1_code (3 : Nat) (Option.none : Option Jvm.ClassFile.FieldType), Jvm.Cond.code ({ cls := "com/example/tanglemark/tanglemark/datalog/Relation", name := "<init>", desc := "(Ljava/lang/String;II)V" } : Jvm.MethodName) prog_45_method_2_code (4 : Nat) (Option.none : Option Jvm.ClassFile.FieldType), Jvm.Cond.code ({ cls := "java/lang/Object", name := "<init>", desc := "()V" } : Jvm.MethodName) object_method_1_code (1 : Nat) (Option.none : Option Jvm.ClassFile.FieldType), Jvm.Cond.code ({ cls := "java/util/ArrayList", name := "<init>", desc := "()V" } : Jvm.MethodName) jdk_38_method_2_code (1 : Nat) (Option.none : Option Jvm.ClassFile.FieldType), Jvm.Cond.code ({ cls := "java/util/AbstractList", name := "<init>", desc := "()V" } : Jvm.MethodName) jdk_39_method_1_code (1 : Nat) (Option.none : Option Jvm.ClassFile.FieldType), Jvm.Cond.code ({ cls := "java/util/AbstractCollection", name := "<init>", desc := "()V" } : Jvm.MethodName) jdk_22_method_1_code (1 : Nat) (Option.none : Option Jvm.ClassFile.FieldType), Jvm.Cond.code ({ cls := "java/lang/Integer", name := "highestOneBit", desc := "(I)I" } : Jvm.MethodName) jdk_33_method_45_code (1 : Nat) (Option.some Jvm.ClassFile.FieldType.int), Jvm.Cond.code ({ cls := "java/lang/Integer", name := "numberOfLeadingZeros", desc := "(I)I" } : Jvm.MethodName) jdk_33_method_47_code (2 : Nat) (Option.some Jvm.ClassFile.FieldType.int), Jvm.Cond.code ({ cls := "java/lang/Math", name := "min", desc := "(II)I" } : Jvm.MethodName) jdk_29_method_69_code (2 : Nat) (Option.some Jvm.ClassFile.FieldType.int), Jvm.Cond.code ({ cls := "java/util/Arrays", name := "setAll", desc := "([ILjava/util/function/IntUnaryOperator;)V" } : Jvm.MethodName) jdk_65_method_175_code (3 : Nat) (Option.none : Option Jvm.ClassFile.FieldType), Jvm.Cond.code ({ cls := "java/util/Objects", name := "requireNonNull", desc := "(Ljava/lang/Object;)Ljava/lang/Object;" } : Jvm.MethodName) jdk_31_method_10_code (1 : Nat) (Option.some (Jvm.ClassFile.FieldType.object "java/lang/Object")), Jvm.Cond.code ({ cls := "com/example/tanglemark/tanglemark/datalog/Relation", name := "lambda$new$0", desc := "(I)I" } : Jvm.MethodName) prog_45_method_36_code (1 : Nat) (Option.some Jvm.ClassFile.FieldType.int), Jvm.Cond.code ({ cls := "com/example/tanglemark/tanglemark/datalog/Relation", name := "index", desc := "([I)Lcom/example/tanglemark/tanglemark/datalog/Relation$Index;" } : Jvm.MethodName) prog_45_method_21_code (5 : Nat) (Option.some (Jvm.ClassFile.FieldType.object "com/example/tanglemark/tanglemark/datalog/Relation$Index")), Jvm.Cond.code ({ cls := "java/util/ArrayList", name := "iterator", desc := "()Ljava/util/Iterator;" } : Jvm.MethodName) jdk_38_method_55_code (1 : Nat) (Option.some (Jvm.ClassFile.FieldType.object "java/util/Iterator")), Jvm.Cond.code ({ cls := "java/util/ArrayList$Itr", name := "<init>", desc := "(Ljava/util/ArrayList;)V" } : Jvm.MethodName) jdk_49_method_1_code (2 : Nat) (Option.none : Option Jvm.ClassFile.FieldType), Jvm.Cond.code ({ cls := "java/util/ArrayList$Itr", name := "hasNext", desc := "()Z" } : Jvm.MethodName) jdk_49_method_2_code (1 : Nat) (Option.some Jvm.ClassFile.FieldType.boolean), Jvm.Cond.code ({ cls := "com/example/tanglemark/tanglemark/datalog/Relation$Chains", name := "<init>", desc := "([I)V" } : Jvm.MethodName) prog_46_method_1_code (2 : Nat) (Option.none : Option Jvm.ClassFile.FieldType), Jvm.Cond.code ({ cls := "com/example/tanglemark/tanglemark/datalog/Relation$Index", name := "<init>", desc := "([I)V" } : Jvm.MethodName) prog_48_method_1_code (2 : Nat) (Option.none : Option Jvm.ClassFile.FieldType), Jvm.Cond.code ({ cls := "java/util/Arrays", name := "fill", desc := "([II)V" } : Jvm.MethodName) jdk_65_method_103_code (4 : Nat) (Option.none : Option Jvm.ClassFile.FieldType), Jvm.Cond.code ({ cls := "java/util/ArrayList", name := "add", desc := "(Ljava/lang/Object;)Z" } : Jvm.MethodName) jdk_38_method_25_code (2 : Nat) (Option.some Jvm.ClassFile.FieldType.boolean), Jvm.Cond.code ({ cls := "java/util/ArrayList", name := "add", desc := "(Ljava/lang/Object;[Ljava/lang/Object;I)V" } : Jvm.MethodName) jdk_38_method_24_code (4 : Nat) (Option.none : Option Jvm.ClassFile.FieldType), Jvm.Cond.code ({ cls := "java/util/ArrayList", name := "grow", desc := "()[Ljava/lang/Object;" } : Jvm.MethodName) jdk_38_method_7_code (1 : Nat) (Option.some (Jvm.ClassFile.FieldType.array (Jvm.ClassFile.FieldType.object "java/lang/Object"))), Jvm.Cond.code ({ cls := "java/util/ArrayList", name := "grow", desc := "(I)[Ljava/lang/Object;" } : Jvm.MethodName) jdk_38_method_6_code (4 : Nat) (Option.some (Jvm.ClassFile.FieldType.array (Jvm.ClassFile.FieldType.object "java/lang/Object"))), Jvm.Cond.code ({ cls := "java/lang/Math", name := "max", desc := "(II)I" } : Jvm.MethodName) jdk_29_method_65_code (2 : Nat) (Option.some Jvm.ClassFile.FieldType.int), Jvm.Cond.code ({ cls := "com/example/tanglemark/tanglemark/datalog/Relation", name := "add", desc := "([I)Z" } : Jvm.MethodName) prog_45_method_8_code (2 : Nat) (Option.some Jvm.ClassFile.FieldType.boolean), Jvm.Cond.code ({ cls := "com/example/tanglemark/tanglemark/datalog/Relation", name := "contains", desc := "([I)Z" } : Jvm.MethodName) prog_45_method_13_code (2 : Nat) (Option.some Jvm.ClassFile.FieldType.boolean), Jvm.Cond.code ({ cls := "com/example/tanglemark/tanglemark/datalog/Relation", name := "row", desc := "([I)I" } : Jvm.MethodName) prog_45_method_14_code (2 : Nat) (Option.some Jvm.ClassFile.FieldType.int), Jvm.Cond.code ({ cls := "com/example/tanglemark/tanglemark/datalog/Relation", name := "requireOpen", desc := "()V" } : Jvm.MethodName) prog_45_method_16_code (1 : Nat) (Option.none : Option Jvm.ClassFile.FieldType), Jvm.Cond.code ({ cls := "com/example/tanglemark/tanglemark/datalog/Relation", name := "newest", desc := "(Lcom/example/tanglemark/tanglemark/datalog/Relation$Chains;[II)I" } : Jvm.MethodName) prog_45_method_15_code (5 : Nat) (Option.some Jvm.ClassFile.FieldType.int), Jvm.Cond.code ({ cls := "com/example/tanglemark/tanglemark/datalog/Relation", name := "hash", desc := "([I)I" } : Jvm.MethodName) prog_45_method_30_code (6 : Nat) (Option.some Jvm.ClassFile.FieldType.int), Jvm.Cond.code ({ cls := "com/example/tanglemark/tanglemark/datalog/Relation", name := "mix", desc := "(II)I" } : Jvm.MethodName) prog_45_method_32_code (2 : Nat) (Option.some Jvm.ClassFile.FieldType.int), Jvm.Cond.code ({ cls := "com/example/tanglemark/tanglemark/datalog/Relation", name := "finish", desc := "(I)I" } : Jvm.MethodName) prog_45_method_33_code (1 : Nat) (Option.some Jvm.ClassFile.FieldType.int), Jvm.Cond.code ({ cls := "com/example/tanglemark/tanglemark/datalog/Relation", name := "first", desc := "(Lcom/example/tanglemark/tanglemark/datalog/Relation$Chains;I)I" } : Jvm.MethodName) prog_45_method_28_code (2 : Nat) (Option.some Jvm.ClassFile.FieldType.int), Jvm.Cond.code ({ cls := "com/example/tanglemark/tanglemark/datalog/Relation", name := "append", desc := "([I)V" } : Jvm.MethodName) prog_45_method_9_code (5 : Nat) (Option.none : Option Jvm.ClassFile.FieldType), Jvm.Cond.code ({ cls := "java/util/ArrayList$Itr", name := "next", desc := "()Ljava/lang/Object;" } : Jvm.MethodName) jdk_49_method_3_code (3 : Nat) (Option.some (Jvm.ClassFile.FieldType.object "java/lang/Object")), Jvm.Cond.code ({ cls := "java/util/ArrayList$Itr", name := "checkForComodification", desc := "()V" } : Jvm.MethodName) jdk_49_method_6_code (1 : Nat) (Option.none : Option Jvm.ClassFile.FieldType), Jvm.Cond.code ({ cls := "com/example/tanglemark/tanglemark/datalog/Relation", name := "insert", desc := "(Lcom/example/tanglemark/tanglemark/datalog/Relation$Chains;I)V" } : Jvm.MethodName) prog_45_method_34_code (4 : Nat) (Option.none : Option Jvm.ClassFile.FieldType), Jvm.Cond.code ({ cls := "com/example/tanglemark/tanglemark/datalog/Relation", name := "link", desc := "(Lcom/example/tanglemark/tanglemark/datalog/Relation$Chains;I)V" } : Jvm.MethodName) prog_45_method_35_code (4 : Nat) (Option.none : Option Jvm.ClassFile.FieldType), Jvm.Cond.code ({ cls := "com/example/tanglemark/tanglemark/datalog/Relation", name := "hashRow", desc := "([II)I" } : Jvm.MethodName) prog_45_method_31_code (8 : Nat) (Option.some Jvm.ClassFile.FieldType.int), Jvm.Cond.code ({ cls := "com/example/tanglemark/tanglemark/datalog/Relation", name := "hasKey", desc := "(I[I[I)Z" } : Jvm.MethodName) prog_45_method_17_code (6 : Nat) (Option.some Jvm.ClassFile.FieldType.boolean), Jvm.Cond.code ({ cls := "com/example/tanglemark/tanglemark/datalog/Relation", name := "size", desc := "()I" } : Jvm.MethodName) prog_45_method_5_code (1 : Nat) (Option.some Jvm.ClassFile.FieldType.int), Jvm.Cond.code ({ cls := "com/example/tanglemark/tanglemark/datalog/Relation", name := "next", desc := "(Lcom/example/tanglemark/tanglemark/datalog/Relation$Chains;I)I" } : Jvm.MethodName) prog_45_method_29_code (2 : Nat) (Option.some Jvm.ClassFile.FieldType.int)]
set_option maxRecDepth 65536 in
theorem codes_eq : words1.filter isCode = codes1 := rfl
theorem w_codes : ∀ c ∈ words1.filter isCode, c.before args0 about1 = true := by
  rw [codes_eq]
  intro c hc
  simp only [codes1, List.mem_cons, List.not_mem_nil, or_false] at hc
  rcases hc with rfl | rfl | rfl | rfl | rfl | rfl | rfl | rfl | rfl | rfl | rfl | rfl | rfl | rfl | rfl | rfl | rfl | rfl | rfl | rfl | rfl | rfl | rfl | rfl | rfl | rfl | rfl | rfl | rfl | rfl | rfl | rfl | rfl | rfl | rfl | rfl | rfl | rfl | rfl | rfl | rfl | rfl | rfl
  · exact w_c0
  · exact w_c1
  · exact w_c2
  · exact w_c3
  · exact w_c4
  · exact w_c5
  · exact w_c6
  · exact w_c7
  · exact w_c8
  · exact w_c9
  · exact w_c10
  · exact w_c11
  · exact w_c12
  · exact w_c13
  · exact w_c14
  · exact w_c15
  · exact w_c16
  · exact w_c17
  · exact w_c18
  · exact w_c19
  · exact w_c20
  · exact w_c21
  · exact w_c22
  · exact w_c23
  · exact w_c24
  · exact w_c25
  · exact w_c26
  · exact w_c27
  · exact w_c28
  · exact w_c29
  · exact w_c30
  · exact w_c31
  · exact w_c32
  · exact w_c33
  · exact w_c34
  · exact w_c35
  · exact w_c36
  · exact w_c37
  · exact w_c38
  · exact w_c39
  · exact w_c40
  · exact w_c41
  · exact w_c42
set_option maxRecDepth 65536 in
theorem w_t1 : (words1.take 24).all (fun c => isCode c || c.before args0 about1) = true := by decide +kernel
set_option maxRecDepth 65536 in
theorem w_t2 : ((words1.drop 24).take 24).all (fun c => isCode c || c.before args0 about1) = true := by decide +kernel
set_option maxRecDepth 65536 in
theorem w_t3 : (((words1.drop 24).drop 24).take 24).all (fun c => isCode c || c.before args0 about1) = true := by decide +kernel
set_option maxRecDepth 65536 in
theorem w_t4 : ((((words1.drop 24).drop 24).drop 24).take 24).all (fun c => isCode c || c.before args0 about1) = true := by decide +kernel
set_option maxRecDepth 65536 in
theorem w_t5 : (((((words1.drop 24).drop 24).drop 24).drop 24).take 24).all (fun c => isCode c || c.before args0 about1) = true := by decide +kernel
set_option maxRecDepth 65536 in
theorem w_t6 : ((((((words1.drop 24).drop 24).drop 24).drop 24).drop 24).take 24).all (fun c => isCode c || c.before args0 about1) = true := by decide +kernel
set_option maxRecDepth 65536 in
theorem w_t7 : (((((((words1.drop 24).drop 24).drop 24).drop 24).drop 24).drop 24).take 24).all (fun c => isCode c || c.before args0 about1) = true := by decide +kernel
set_option maxRecDepth 65536 in
theorem w_t8 : ((((((((words1.drop 24).drop 24).drop 24).drop 24).drop 24).drop 24).drop 24).take 24).all (fun c => isCode c || c.before args0 about1) = true := by decide +kernel
set_option maxRecDepth 65536 in
theorem w_t9 : (((((((((words1.drop 24).drop 24).drop 24).drop 24).drop 24).drop 24).drop 24).drop 24).take 24).all (fun c => isCode c || c.before args0 about1) = true := by decide +kernel
set_option maxRecDepth 65536 in
theorem w_t10 : ((((((((((words1.drop 24).drop 24).drop 24).drop 24).drop 24).drop 24).drop 24).drop 24).drop 24).take 24).all (fun c => isCode c || c.before args0 about1) = true := by decide +kernel
set_option maxRecDepth 65536 in
theorem w_t11 : (((((((((((words1.drop 24).drop 24).drop 24).drop 24).drop 24).drop 24).drop 24).drop 24).drop 24).drop 24).take 24).all (fun c => isCode c || c.before args0 about1) = true := by decide +kernel
set_option maxRecDepth 65536 in
theorem w_t12 : ((((((((((((words1.drop 24).drop 24).drop 24).drop 24).drop 24).drop 24).drop 24).drop 24).drop 24).drop 24).drop 24).take 24).all (fun c => isCode c || c.before args0 about1) = true := by decide +kernel
set_option maxRecDepth 65536 in
theorem w_t13 : ((((((((((((words1.drop 24).drop 24).drop 24).drop 24).drop 24).drop 24).drop 24).drop 24).drop 24).drop 24).drop 24).drop 24).all (fun c => isCode c || c.before args0 about1) = true := by decide +kernel
theorem w_tables : (allAtoms (Jvm.Cond.code x code maxLocals ret :: tables_1)).before args0 about1 = true := by
  rw [allAtoms_all]
  show words1.all (fun c => c.before args0 about1) = true
  refine all_split ?_ w_codes
  rw [← List.take_append_drop 24 words1, List.all_append, w_t1, ← List.take_append_drop 24 (words1.drop 24), List.all_append, w_t2, ← List.take_append_drop 24 ((words1.drop 24).drop 24), List.all_append, w_t3, ← List.take_append_drop 24 (((words1.drop 24).drop 24).drop 24), List.all_append, w_t4, ← List.take_append_drop 24 ((((words1.drop 24).drop 24).drop 24).drop 24), List.all_append, w_t5, ← List.take_append_drop 24 (((((words1.drop 24).drop 24).drop 24).drop 24).drop 24), List.all_append, w_t6, ← List.take_append_drop 24 ((((((words1.drop 24).drop 24).drop 24).drop 24).drop 24).drop 24), List.all_append, w_t7, ← List.take_append_drop 24 (((((((words1.drop 24).drop 24).drop 24).drop 24).drop 24).drop 24).drop 24), List.all_append, w_t8, ← List.take_append_drop 24 ((((((((words1.drop 24).drop 24).drop 24).drop 24).drop 24).drop 24).drop 24).drop 24), List.all_append, w_t9, ← List.take_append_drop 24 (((((((((words1.drop 24).drop 24).drop 24).drop 24).drop 24).drop 24).drop 24).drop 24).drop 24), List.all_append, w_t10, ← List.take_append_drop 24 ((((((((((words1.drop 24).drop 24).drop 24).drop 24).drop 24).drop 24).drop 24).drop 24).drop 24).drop 24), List.all_append, w_t11, ← List.take_append_drop 24 (((((((((((words1.drop 24).drop 24).drop 24).drop 24).drop 24).drop 24).drop 24).drop 24).drop 24).drop 24).drop 24), List.all_append, w_t12, w_t13]
  rfl
set_option maxRecDepth 65536 in
theorem w_rest : rest_1_c.before args0 about1 = true := by decide +kernel
set_option maxRecDepth 65536 in
theorem w_case : (Jvm.Cond.and given_1 narrow_1).before args0 about1 = true := by decide +kernel
theorem w_applies : (headSpec (Jvm.Cond.code x code maxLocals ret :: tables_1) room_1).applies x e0.platform about1 = true :=
  (Spec.applies_iff w_frames).mpr ⟨w_running, w_runnable, w_alone, w_named, w_hears, w_ripe, w_room, w_tables⟩
theorem atStart : AtStart classFile x code maxLocals ret World_1 tables_1 room_1 Calls_1 rest_1 Pre_1 launch0 p0 e0 about1 theMethod args0 below0 :=
  ⟨lists_1, trivial, launch0.admits_env _ _ _, launch0.least_env, fairChoices_fair.cas, fairChoices_fair.clock, w_frames, w_args, w_heap, w_applies, trivial, w_rest, w_case⟩
end start1
theorem witness_1 : WitnessClaimed_1 := ⟨start1.p0, start1.e0, start1.about1, start1.theMethod, start1.args0, start1.below0, start1.atStart⟩
end Jvm.Pilot.@@N@@
