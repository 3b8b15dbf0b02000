import JvmDerived
import JvmDerived.Pilot.@@N@@Statement
import JvmDerived.Pilot.@@N@@Code
set_option linter.unusedVariables false
set_option linter.unusedSimpArgs false
namespace Jvm.Pilot.@@N@@
open Jvm Jvm.ClassFile Sem Op Lib Jvm.Free Jvm.Stand Jvm.LawKit Jvm.RoadKit Bundle Jvm.Pilot.@@N@@.Jvm.D
theorem ow {Z : State} {a0 : Array Value} (hw : ∀ d ∈ tables_1, d.before a0 Z = true) {i : Nat} {d : Jvm.Cond} (h : tables_1[i]? = some d) : d.before a0 Z = true := hw d (List.mem_of_getElem? h)
theorem oLt {n m : Nat} (h : Nat.blt n m = true) : n < m := by simpa [Nat.blt_eq] using h
theorem oLe {n m : Nat} (h : Nat.ble n m = true) : n ≤ m := Nat.le_of_ble_eq_true h
theorem ogeI (x : Int32) : -2147483648 ≤ x.toInt := by have := Int32.le_toInt x; omega
theorem oltI' (x : Int32) : x.toInt < 2147483648 := by have := Int32.toInt_lt x; omega
theorem ogeL (x : Int64) : -9223372036854775808 ≤ x.toInt := by have := Int64.le_toInt x; omega
theorem oltL' (x : Int64) : x.toInt < 9223372036854775808 := by have := Int64.toInt_lt x; omega
theorem orI (x : Int32) : -2147483648 ≤ x.toInt ∧ x.toInt < 2147483648 := ⟨ogeI x, oltI' x⟩
theorem orL (x : Int64) : -9223372036854775808 ≤ x.toInt ∧ x.toInt < 9223372036854775808 := ⟨ogeL x, oltL' x⟩
theorem oiadd (x y : Int32) : ((x + y).toInt - (x.toInt + y.toInt)) % 4294967296 = 0 ∧ -2147483648 ≤ (x + y).toInt ∧ (x + y).toInt < 2147483648 := ⟨c_iadd x y, orI _⟩
theorem oisub (x y : Int32) : ((x - y).toInt - (x.toInt - y.toInt)) % 4294967296 = 0 ∧ -2147483648 ≤ (x - y).toInt ∧ (x - y).toInt < 2147483648 := ⟨c_isub x y, orI _⟩
theorem oladd (x y : Int64) : ((x + y).toInt - (x.toInt + y.toInt)) % 18446744073709551616 = 0 ∧ -9223372036854775808 ≤ (x + y).toInt ∧ (x + y).toInt < 9223372036854775808 := ⟨c_ladd x y, orL _⟩
theorem olsub (x y : Int64) : ((x - y).toInt - (x.toInt - y.toInt)) % 18446744073709551616 = 0 ∧ -9223372036854775808 ≤ (x - y).toInt ∧ (x - y).toInt < 9223372036854775808 := ⟨c_lsub x y, orL _⟩
theorem oltI {x y : Int32} (h : x < y) : x.toInt < y.toInt := Int32.lt_iff_toInt_lt.mp h
theorem oltL {x y : Int64} (h : x < y) : x.toInt < y.toInt := Int64.lt_iff_toInt_lt.mp h
theorem onltI {x y : Int32} (h : ¬ x < y) : y.toInt ≤ x.toInt := by rw [Int32.lt_iff_toInt_lt] at h; omega
theorem onltL {x y : Int64} (h : ¬ x < y) : y.toInt ≤ x.toInt := by rw [Int64.lt_iff_toInt_lt] at h; omega
theorem oeqI {x y : Int32} (h : x = y) : x.toInt = y.toInt := congrArg _ h
theorem oeqL {x y : Int64} (h : x = y) : x.toInt = y.toInt := congrArg _ h
theorem oneI {x y : Int32} (h : ¬ x = y) : x.toInt ≠ y.toInt := fun q => h (Int32.toInt_inj.mp q)
theorem oneL {x y : Int64} (h : ¬ x = y) : x.toInt ≠ y.toInt := fun q => h (Int64.toInt_inj.mp q)
theorem oltI_i {x y : Int32} (h : x.toInt < y.toInt) : x < y := Int32.lt_iff_toInt_lt.mpr h
theorem oltL_i {x y : Int64} (h : x.toInt < y.toInt) : x < y := Int64.lt_iff_toInt_lt.mpr h
theorem onltI_i {x y : Int32} (h : y.toInt ≤ x.toInt) : ¬ x < y := by rw [Int32.lt_iff_toInt_lt]; omega
theorem onltL_i {x y : Int64} (h : y.toInt ≤ x.toInt) : ¬ x < y := by rw [Int64.lt_iff_toInt_lt]; omega
theorem oeqI_i {x y : Int32} (h : x.toInt = y.toInt) : x = y := Int32.toInt_inj.mp h
theorem oeqL_i {x y : Int64} (h : x.toInt = y.toInt) : x = y := Int64.toInt_inj.mp h
theorem oneI_i {x y : Int32} (h : x.toInt ≠ y.toInt) : ¬ x = y := fun q => h (congrArg _ q)
theorem oneL_i {x y : Int64} (h : x.toInt ≠ y.toInt) : ¬ x = y := fun q => h (congrArg _ q)
theorem otoI {x y : Int32} (h : x.toInt = y.toInt) : x = y := Int32.toInt_inj.mp h
theorem otoL {x y : Int64} (h : x.toInt = y.toInt) : x = y := Int64.toInt_inj.mp h
theorem omaskI (x m : Int32) (k : Nat) (P : Int) (hk : k ≤ 31) (hm : m.toBitVec.toNat = 2 ^ k - 1) (hP : P = ((2 ^ k : Nat) : Int)) : (x &&& m).toInt = x.toInt % P := by rw [hP]; exact c_mask x m k hk hm
theorem omaskL (x m : Int64) (k : Nat) (P : Int) (hk : k ≤ 63) (hm : m.toBitVec.toNat = 2 ^ k - 1) (hP : P = ((2 ^ k : Nat) : Int)) : (x &&& m).toInt = x.toInt % P := by rw [hP]; exact c_maskL x m k hk hm
theorem oandI (x m : Int32) (hm : 0 ≤ m.toInt) : 0 ≤ (x &&& m).toInt ∧ (x &&& m).toInt ≤ m.toInt := c_and x m hm
theorem oishr (x q : Int32) (k : Nat) (P : Int) (hk : q.toBitVec.toNat % 32 = k) (hP : P = ((2 ^ k : Nat) : Int)) : (x >>> (q &&& 31)).toInt = x.toInt / P := by rw [hP]; exact c_ishr x q k hk
theorem oishl (x q : Int32) (k : Nat) (P : Int) (hk : q.toBitVec.toNat % 32 = k) (hP : P = ((2 ^ k : Nat) : Int)) : ((x <<< (q &&& 31)).toInt - x.toInt * P) % 4294967296 = 0 := by rw [hP]; exact c_ishl x q k hk
theorem oiushr (x q : Int32) (k : Nat) (P : Int) (hk : q.toBitVec.toNat % 32 = k) (hP : P = ((2 ^ k : Nat) : Int)) (h0 : 0 < k) : ((x.toUInt32 >>> (q &&& 31).toUInt32).toInt32).toInt = (x.toInt % 4294967296) / P := by rw [hP]; exact c_iushr x q k hk h0
theorem olshr (x : Int64) (q : Int32) (k : Nat) (P : Int) (hk : q.toBitVec.toNat % 64 = k) (hP : P = ((2 ^ k : Nat) : Int)) : (x >>> (q &&& 0x3f).toInt64).toInt = x.toInt / P := by rw [hP]; exact c_lshr x q k hk
theorem olshl (x : Int64) (q : Int32) (k : Nat) (P : Int) (hk : q.toBitVec.toNat % 64 = k) (hP : P = ((2 ^ k : Nat) : Int)) : ((x <<< (q &&& 0x3f).toInt64).toInt - x.toInt * P) % 18446744073709551616 = 0 := by rw [hP]; exact c_lshl x q k hk
theorem olushr (x : Int64) (q : Int32) (k : Nat) (P : Int) (hk : q.toBitVec.toNat % 64 = k) (hP : P = ((2 ^ k : Nat) : Int)) (h0 : 0 < k) : ((x.toUInt64 >>> (q &&& 0x3f).toInt64.toUInt64).toInt64).toInt = (x.toInt % 18446744073709551616) / P := by rw [hP]; exact c_lushr x q k hk h0
theorem oirem (x y : Int32) (d : Int) (hy : y.toInt = d) (h0 : 0 < d) (h1 : y ≠ -1) : (0 ≤ x.toInt → (x % y).toInt = x.toInt % d) ∧ (x.toInt < 0 → (x % y).toInt = -((-x.toInt) % d)) := c_irem x y d hy
theorem olrem (x y : Int64) (d : Int) (hy : y.toInt = d) (h0 : 0 < d) (h1 : y ≠ -1) : (0 ≤ x.toInt → (x - (x / y) * y).toInt = x.toInt % d) ∧ (x.toInt < 0 → (x - (x / y) * y).toInt = -((-x.toInt) % d)) := c_lrem x y d hy
theorem oidiv (x y : Int32) (d : Int) (hy : y.toInt = d) (h0 : 0 < d) (h1 : y ≠ -1) : (0 ≤ x.toInt → (x / y).toInt = x.toInt / d) ∧ (x.toInt < 0 → (x / y).toInt = -((-x.toInt) / d)) := c_idiv x y d hy h1
theorem oldiv (x y : Int64) (d : Int) (hy : y.toInt = d) (h0 : 0 < d) (h1 : y ≠ -1) : (0 ≤ x.toInt → (x / y).toInt = x.toInt / d) ∧ (x.toInt < 0 → (x / y).toInt = -((-x.toInt) / d)) := c_ldiv x y d hy h1
theorem olremV (x y : Int64) : 0 ≤ x.toInt → 0 < y.toInt → 0 ≤ (x - (x / y) * y).toInt ∧ (x - (x / y) * y).toInt < y.toInt ∧ (x - (x / y) * y).toInt ≤ x.toInt := by
  intro h1 h2
  rw [(c_lrem x y y.toInt rfl).1 h1]
  exact ⟨Int.emod_nonneg _ (by omega), Int.emod_lt_of_pos _ h2, by have q1 := Int.mul_ediv_add_emod x.toInt y.toInt; have q2 := Int.mul_nonneg (Int.le_of_lt h2) (Int.ediv_nonneg h1 (Int.le_of_lt h2)); omega⟩
theorem oiremV (x y : Int32) : 0 ≤ x.toInt → 0 < y.toInt → 0 ≤ (x % y).toInt ∧ (x % y).toInt < y.toInt ∧ (x % y).toInt ≤ x.toInt := by
  intro h1 h2
  rw [(c_irem x y y.toInt rfl).1 h1]
  exact ⟨Int.emod_nonneg _ (by omega), Int.emod_lt_of_pos _ h2, by have q1 := Int.mul_ediv_add_emod x.toInt y.toInt; have q2 := Int.mul_nonneg (Int.le_of_lt h2) (Int.ediv_nonneg h1 (Int.le_of_lt h2)); omega⟩
abbrev o0 : Value := .int (0 : Int32)
abbrev oFK : Type := String × String × String
abbrev oD : Type := Sum (FieldType × List Value) (String × List (oFK × Value))
abbrev oA (ty : FieldType) (vs : List Value) : oD := .inl (ty, vs)
abbrev oO (C : String) (fs : List (oFK × Value)) : oD := .inr (C, fs)
abbrev oDs : Type := List (Addr × oD)
def oSl (Z : State) (f : oFK) : Nat := Jvm.RoadKit.slotOf Z f.1 f.2.1 f.2.2
def oIs (Z : State) (h : Heap) (a : Addr) (d : oD) : Prop :=
  match d with
  | .inl x => ∃ c : Cell, Arr Z h a c x.1 ∧ c.slots = x.2.toArray ∧ (∀ C, x.1 = .object C → Ovr Z c.cls C) ∧ Exa Z h a ("[" ++ x.1.toString) ∧ ∀ v ∈ x.2, fits x.1 v = true
  | .inr x => Exa Z h a x.1 ∧ (∀ f ∈ x.2, Fld Z h a f.1.1 f.1.2.1 f.1.2.2 f.2) ∧ x.2.Pairwise (fun f g => oSl Z f.1 ≠ oSl Z g.1)
def oHP (Z : State) (h0 : Heap) (lo : Nat) (h : Heap) (ds : oDs) : Prop := (Ext h0 h ∧ lo ≤ h.size) ∧ (ds.map (·.1)).Nodup ∧ ∀ x ∈ ds, h0.size ≤ x.1 ∧ oIs Z h x.1 x.2
theorem oExt.refl (h : Heap) : Ext h h := ⟨Nat.le_refl _, fun _ _ q => q⟩
theorem oExt.trans {h h' h'' : Heap} (E : Ext h h') (E' : Ext h' h'') : Ext h h'' := ⟨Nat.le_trans E.1 E'.1, fun a c q => E'.2 a c (E.2 a c q)⟩
theorem oHP.nil (Z : State) (h : Heap) : oHP Z h h.size h [] := ⟨⟨oExt.refl h, Nat.le_refl _⟩, List.nodup_nil, fun x hx => nomatch hx⟩
theorem oIs.lt {Z : State} {h : Heap} {a : Addr} {d : oD} (I : oIs Z h a d) : a < h.size := by
  cases d with
  | inl x => obtain ⟨c, A, -⟩ := I; exact A.lt
  | inr x => exact I.1.lt
theorem oIs.ext {Z : State} {h h' : Heap} {a : Addr} {d : oD} (E : Ext h h') (I : oIs Z h a d) : oIs Z h' a d := by
  cases d with
  | inl x => obtain ⟨c, A, r1, r2, r3, r4⟩ := I; exact ⟨c, A.ext E, r1, r2, r3.ext E, r4⟩
  | inr x => exact ⟨I.1.ext E, fun f hf => (I.2.1 f hf).ext E, I.2.2⟩
theorem oIs.other {Z : State} {h h' : Heap} {a b : Addr} {sl : Nat} {v : Value} {d : oD} (W : Wr h h' a sl v) (ne : b ≠ a) (I : oIs Z h b d) : oIs Z h' b d := by
  cases d with
  | inl x => obtain ⟨c, A, r1, r2, r3, r4⟩ := I; exact ⟨c, A.other W ne, r1, r2, r3.wr W, r4⟩
  | inr x => exact ⟨I.1.wr W, fun f hf => (I.2.1 f hf).other W (Or.inl ne), I.2.2⟩
theorem oHP.at {Z : State} {h0 h : Heap} {lo : Nat} {ds : oDs} (H : oHP Z h0 lo h ds) {i : Nat} {a : Addr} {d : oD} (hi : ds[i]? = some (a, d)) : h0.size ≤ a ∧ oIs Z h a d := H.2.2 (a, d) (List.mem_of_getElem? hi)
theorem oHP.more {Z : State} {h0 h h' : Heap} {lo : Nat} {ds : oDs} (H : oHP Z h0 lo h ds) (E : Ext h h') {lo' : Nat} (hlo : lo' ≤ h'.size) : oHP Z h0 lo' h' ds := ⟨⟨oExt.trans H.1.1 E, hlo⟩, H.2.1, fun x hx => ⟨(H.2.2 x hx).1, (H.2.2 x hx).2.ext E⟩⟩
theorem oHP.new {Z : State} {h0 h h' : Heap} {lo : Nat} {ds : oDs} (H : oHP Z h0 lo h ds) (E : Ext h h') {d : oD} (I : oIs Z h' h.size d) : oHP Z h0 lo h' ((h.size, d) :: ds) := by
  refine ⟨⟨oExt.trans H.1.1 E, Nat.le_trans H.1.2 E.1⟩, ?_, ?_⟩
  · rw [List.map_cons, List.nodup_cons]
    refine ⟨fun q => ?_, H.2.1⟩
    obtain ⟨x, hx, e⟩ := List.mem_map.mp q
    exact absurd e (Nat.ne_of_lt (H.2.2 x hx).2.lt)
  · intro x hx
    rcases List.mem_cons.mp hx with rfl | hx
    · exact ⟨H.1.1.1, I⟩
    · exact ⟨(H.2.2 x hx).1, (H.2.2 x hx).2.ext E⟩
theorem oHP.ne {Z : State} {h0 h : Heap} {lo : Nat} {ds : oDs} (H : oHP Z h0 lo h ds) {i j : Nat} {x y : Addr × oD} (hi : ds[i]? = some x) (hj : ds[j]? = some y) (ne : i ≠ j) : x.1 ≠ y.1 := by
  intro q
  have h1 : (ds.map (·.1))[i]? = some x.1 := by rw [List.getElem?_map, hi]; rfl
  have h2 : (ds.map (·.1))[j]? = some x.1 := by rw [List.getElem?_map, hj, q]; rfl
  obtain ⟨l1, e1⟩ := List.getElem?_eq_some_iff.mp h1
  obtain ⟨l2, e2⟩ := List.getElem?_eq_some_iff.mp h2
  have P := List.pairwise_iff_getElem.mp (List.nodup_iff_pairwise_ne.mp H.2.1)
  rcases Nat.lt_or_gt_of_ne ne with r | r
  · exact P i j l1 l2 r (e1.trans e2.symm)
  · exact P j i l2 l1 r (e2.trans e1.symm)
theorem oHP.wr {Z : State} {h0 h h' : Heap} {lo : Nat} {ds : oDs} (H : oHP Z h0 lo h ds) {i : Nat} {a : Addr} {d d' : oD} {sl : Nat} {v : Value} (hi : ds[i]? = some (a, d)) (W : Wr h h' a sl v) (I : oIs Z h' a d') : oHP Z h0 lo h' (ds.set i (a, d')) := by
  have hl : i < ds.length := (List.getElem?_eq_some_iff.mp hi).1
  have ha := (H.at hi).1
  refine ⟨?_, ?_, ?_⟩
  · obtain ⟨cell, w1, w2, w3, w4⟩ := W
    refine ⟨⟨by rw [w4]; simpa using H.1.1.1, fun b cb hb => ?_⟩, by rw [w4]; simpa using H.1.2⟩
    have hb' := H.1.1.2 b cb hb
    have hlt : b < h0.size := (Array.getElem?_eq_some_iff.mp hb).1
    rw [w4, Array.getElem?_setIfInBounds_ne (Nat.ne_of_gt (Nat.lt_of_lt_of_le hlt ha))]
    exact hb'
  · have e : (ds.set i (a, d')).map (·.1) = ds.map (·.1) := by
      rw [List.map_set]
      have h1 : (ds.map (·.1))[i]? = some a := by rw [List.getElem?_map, hi]; rfl
      obtain ⟨l1, e1⟩ := List.getElem?_eq_some_iff.mp h1
      show (ds.map (·.1)).set i a = _
      rw [← e1, List.set_getElem_self]
    rw [e]; exact H.2.1
  · intro x hx
    obtain ⟨j, hj⟩ := List.mem_iff_getElem?.mp hx
    rw [List.getElem?_set] at hj
    by_cases q : i = j
    · rw [if_pos q, if_pos hl] at hj
      cases hj; exact ⟨ha, I⟩
    · rw [if_neg q] at hj
      have ne : x.1 ≠ a := H.ne hj hi (Ne.symm q)
      obtain ⟨g1, g2⟩ := H.2.2 x (List.mem_of_getElem? hj)
      exact ⟨g1, g2.other W ne⟩
def oB (p : Program) (l : Launch) (e : Env) (R : Room) (s : State) (m : MethodId) (args : Array Value) (below : List Frame) (meth : Method) (c : Code) (Z : State) (h0 : Heap) (lo : Nat) (T : State) (cells slots : Nat) (ds : oDs) : Prop :=
  p.tables.exec = Jvm.exec ∧ Z.Warmed39 s.vm ∧ meth.locks = false ∧ ∃ locs, Stand p l e R s m args below meth c T locs cells slots ∧ Fr h0.size locs ∧ oHP Z h0 lo T.heap ds
def oWin (p : Program) (e : Env) (below : List Frame) (Z : State) (h0 : Heap) (Q : Option Value → oDs → Prop) (E : Outcome → State → List Loc → Prop) (S : State) : Prop :=
  ∃ U o, Steps p.tables e below S U ∧ U.status = .running ∧ Ended U below o ∧ ∃ v L, o = .returned v ∧ (Fr h0.size L ∧ ∃ lo ds, oHP Z h0 lo U.heap ds ∧ Q v ds) ∧ E o U L
/-- the end of a walk, said of the walk's start: the plain frame; the wide one (a String constant may have been interned) -/
def oFE (s : State) (lo kc ks : Nat) (o : Outcome) (U : State) (L : List Loc) : Prop := lo ≤ U.heap.size ∧ FrameEnd s o U L kc ks
def oFW (s : State) (kc ks : Nat) (o : Outcome) (U : State) (L : List Loc) : Prop := ReturnedEndW s o U L kc ks
def oMet (l : Launch) (Z : State) (h0 : Heap) (lo : Nat) (y : MethodName) (bytes : ByteArray) (maxL : Nat) (ret : Option FieldType) (ws : List Jvm.Cond) (rm : Room) (as : Array Value) (ds : oDs) (Q : Option Value → oDs → Prop) : Prop :=
  ∀ h, oHP Z h0 lo h ds → MetFree l y (head1 (Jvm.Cond.code y bytes maxL ret :: ws) rm) (fun a U => a = as ∧ Z.Warmed39 U.vm ∧ U.heap = h) (fun _ _ _ _ _ => True) (fun _ U o U' => ∃ v L, o = .returned v ∧ (Fr h0.size L ∧ ∃ ds', oHP Z h0 lo U'.heap ds' ∧ Q v ds') ∧ FrameEnd U o U' L rm.cells rm.slots)
def oMetW (l : Launch) (Z : State) (h0 : Heap) (lo : Nat) (y : MethodName) (bytes : ByteArray) (maxL : Nat) (ret : Option FieldType) (ws : List Jvm.Cond) (rm : Room) (as : Array Value) (ds : oDs) (Q : Option Value → oDs → Prop) : Prop :=
  ∀ h, oHP Z h0 lo h ds → MetFree l y (head1 (Jvm.Cond.code y bytes maxL ret :: ws) rm) (fun a U => a = as ∧ Z.Warmed39 U.vm ∧ U.heap = h) (fun _ _ _ _ _ => True) (fun _ U o U' => ∃ v L, o = .returned v ∧ (Fr h0.size L ∧ ∃ lo' ds', oHP Z h0 lo' U'.heap ds' ∧ Q v ds') ∧ ReturnedEndW U o U' L rm.cells rm.slots)
theorem oMet.of_body {l : Launch} {Z : State} {h0 : Heap} {lo : Nat} {y : MethodName} {bytes : ByteArray} {maxL : Nat} {ret : Option FieldType} {ws : List Jvm.Cond} {rm : Room} {as : Array Value} {ds : oDs} {Q : Option Value → oDs → Prop} (hpl : plainFor y = true)
    (body : ∀ p e s m below meth c T, oB p l e rm s m as below meth c Z h0 lo T 0 0 ds → c.code = bytes → c.maxLocals = maxL → s.vm.findClass y.cls = some m.cls → meth.name = y.name → meth.sig.returnType = ret → oWin p e below Z h0 Q (oFE s lo rm.cells rm.slots) (T.setTop (entryFrame m as maxL))) : oMet l Z h0 lo y bytes maxL ret ws rm as ds Q := by
  intro h hH
  refine MetFree.of_bodySF hpl hisR ?_
  intro p e s m args below meth c s₁ Bd hml hP hK
  obtain ⟨rfl, hZ, hh⟩ := hP
  have e0 : s₁.heap = h := by rw [← hh, Bd.state]; rfl
  obtain ⟨U, o, h1, h2, h3, v, L, h4, ⟨h5, lo', ds', h6, h7⟩, h8, h9⟩ := body p e s m below meth c s₁ ⟨Bd.exec, hZ, Bd.notSynchronized, [], Stand.of_body Bd, Fr.nil _, e0 ▸ hH⟩ Bd.bytes hml (findClass_of_methodNamed Bd.named) (name_of_methodNamed Bd.named Bd.method).1 Bd.returns
  exact ⟨U, o, h1, h2, h3, v, L, h4, ⟨h5, ds', ⟨⟨h6.1.1, h8⟩, h6.2⟩, h7⟩, h9⟩
theorem oMetW.of_body {l : Launch} {Z : State} {h0 : Heap} {lo : Nat} {y : MethodName} {bytes : ByteArray} {maxL : Nat} {ret : Option FieldType} {ws : List Jvm.Cond} {rm : Room} {as : Array Value} {ds : oDs} {Q : Option Value → oDs → Prop} (hpl : plainFor y = true)
    (body : ∀ p e s m below meth c T (vm : Vm), oB p l e rm (s.setVm vm) m as below meth c Z h0 lo T 0 0 ds → s.Since vm lo → c.code = bytes → c.maxLocals = maxL → (s.setVm vm).vm.findClass y.cls = some m.cls → meth.name = y.name → meth.sig.returnType = ret → oWin p e below Z h0 Q (oFW s rm.cells rm.slots) (T.setTop (entryFrame m as maxL))) : oMetW l Z h0 lo y bytes maxL ret ws rm as ds Q := by
  intro h hH
  refine MetFree.of_bodySF hpl hisR ?_
  intro p e s m args below meth c s₁ Bd hml hP hK
  obtain ⟨rfl, hZ, hh⟩ := hP
  have e0 : s₁.heap = h := by rw [← hh, Bd.state]; rfl
  exact body p e s m below meth c s₁ s.vm ⟨Bd.exec, hZ, Bd.notSynchronized, [], Stand.of_body Bd, Fr.nil _, e0 ▸ hH⟩ ((State.WarmedH.refl s).since lo) Bd.bytes hml (findClass_of_methodNamed Bd.named) (name_of_methodNamed Bd.named Bd.method).1 Bd.returns
section Wlaws
variable {p : Program} {l : Launch} {e : Env} {R : Room} {s : State} {m : MethodId} {args : Array Value} {below : List Frame} {meth : Method} {c : Code} {Z : State} {a0 : Array Value} {h0 : Heap} {lo : Nat} {T : State} {cells slots : Nat} {ds ds' : oDs} {Q : Option Value → oDs → Prop} {E : Outcome → State → List Loc → Prop} {kc ks : Nat} {pc pc' : Nat} {ls ls' : Array Slot} {st : List Value}
theorem oWin.step {S S' : State} (w : oWin p e below Z h0 Q E S') (k : ∀ t, Steps p.tables e below S' t → Steps p.tables e below S t) : oWin p e below Z h0 Q E S := by
  obtain ⟨U, o, h1, r⟩ := w; exact ⟨U, o, k _ h1, r⟩
theorem oWin.steps {S S' : State} (w : oWin p e below Z h0 Q E S') (k : Steps p.tables e below S S') : oWin p e below Z h0 Q E S := by
  obtain ⟨U, o, h1, r⟩ := w; exact ⟨U, o, k.trans h1, r⟩
theorem W_entry {as : Array Value} {maxL : Nat} (h : entryFrame m as maxL = mkF m 0 ls []) (w : oWin p e below Z h0 Q E (T.setTop (mkF m 0 ls []))) : oWin p e below Z h0 Q E (T.setTop (entryFrame m as maxL)) := by rw [h]; exact w
theorem W_iload (B : oB p l e R s m args below meth c Z h0 lo T cells slots ds) {i : Nat} {v : Int32} (hd : decode c.code pc = .ok (.iload i, 2)) (hp : pc + 2 = pc') (hl : ls[i]? = some (.val (.int v))) (w : oWin p e below Z h0 Q E (T.setTop (mkF m pc' ls (.int v :: st)))) : oWin p e below Z h0 Q E (T.setTop (mkF m pc ls (st))) := by
  subst hp
  obtain ⟨hx, hZ, hlk, locs, X, N, H⟩ := B
  exact w.step fun t k => XS.iload X.here hx rfl hd hl k
theorem W_iloadN (B : oB p l e R s m args below meth c Z h0 lo T cells slots ds) {i : Fin 4} {v : Int32} (hd : decode c.code pc = .ok (.iload_n i, 1)) (hp : pc + 1 = pc') (hl : ls[i.val]? = some (.val (.int v))) (w : oWin p e below Z h0 Q E (T.setTop (mkF m pc' ls (.int v :: st)))) : oWin p e below Z h0 Q E (T.setTop (mkF m pc ls (st))) := by
  subst hp
  obtain ⟨hx, hZ, hlk, locs, X, N, H⟩ := B
  exact w.step fun t k => XS.iloadN X.here hx rfl hd hl k
theorem W_istore (B : oB p l e R s m args below meth c Z h0 lo T cells slots ds) {i : Nat} {x v : Int32} (hd : decode c.code pc = .ok (.istore i, 2)) (hp : pc + 2 = pc') (hz : x = v) (hl : storeLocals ls i (.int v) = some ls') (w : oWin p e below Z h0 Q E (T.setTop (mkF m pc' ls' (st)))) : oWin p e below Z h0 Q E (T.setTop (mkF m pc ls (.int x :: st))) := by
  subst hp hz
  obtain ⟨hx, hZ, hlk, locs, X, N, H⟩ := B
  exact w.step fun t k => XS.istore X.here hx rfl hd rfl hl k
theorem W_istoreN (B : oB p l e R s m args below meth c Z h0 lo T cells slots ds) {i : Fin 4} {x v : Int32} (hd : decode c.code pc = .ok (.istore_n i, 1)) (hp : pc + 1 = pc') (hz : x = v) (hl : storeLocals ls i.val (.int v) = some ls') (w : oWin p e below Z h0 Q E (T.setTop (mkF m pc' ls' (st)))) : oWin p e below Z h0 Q E (T.setTop (mkF m pc ls (.int x :: st))) := by
  subst hp hz
  obtain ⟨hx, hZ, hlk, locs, X, N, H⟩ := B
  exact w.step fun t k => XS.istoreN X.here hx rfl hd rfl hl k
theorem W_iadd (B : oB p l e R s m args below meth c Z h0 lo T cells slots ds) {x y z : Int32} (hd : decode c.code pc = .ok (.iadd, 1)) (hp : pc + 1 = pc') (hz : x + y = z) (w : oWin p e below Z h0 Q E (T.setTop (mkF m pc' ls (.int z :: st)))) : oWin p e below Z h0 Q E (T.setTop (mkF m pc ls (.int y :: .int x :: st))) := by
  subst hp hz
  obtain ⟨hx, hZ, hlk, locs, X, N, H⟩ := B
  exact w.step fun t k => XS.iadd X.here hx rfl hd rfl k
theorem W_isub (B : oB p l e R s m args below meth c Z h0 lo T cells slots ds) {x y z : Int32} (hd : decode c.code pc = .ok (.isub, 1)) (hp : pc + 1 = pc') (hz : x - y = z) (w : oWin p e below Z h0 Q E (T.setTop (mkF m pc' ls (.int z :: st)))) : oWin p e below Z h0 Q E (T.setTop (mkF m pc ls (.int y :: .int x :: st))) := by
  subst hp hz
  obtain ⟨hx, hZ, hlk, locs, X, N, H⟩ := B
  exact w.step fun t k => XS.isub X.here hx rfl hd rfl k
theorem W_imul (B : oB p l e R s m args below meth c Z h0 lo T cells slots ds) {x y z : Int32} (hd : decode c.code pc = .ok (.imul, 1)) (hp : pc + 1 = pc') (hz : x * y = z) (w : oWin p e below Z h0 Q E (T.setTop (mkF m pc' ls (.int z :: st)))) : oWin p e below Z h0 Q E (T.setTop (mkF m pc ls (.int y :: .int x :: st))) := by
  subst hp hz
  obtain ⟨hx, hZ, hlk, locs, X, N, H⟩ := B
  exact w.step fun t k => XS.imul X.here hx rfl hd rfl k
theorem W_iand (B : oB p l e R s m args below meth c Z h0 lo T cells slots ds) {x y z : Int32} (hd : decode c.code pc = .ok (.iand, 1)) (hp : pc + 1 = pc') (hz : x &&& y = z) (w : oWin p e below Z h0 Q E (T.setTop (mkF m pc' ls (.int z :: st)))) : oWin p e below Z h0 Q E (T.setTop (mkF m pc ls (.int y :: .int x :: st))) := by
  subst hp hz
  obtain ⟨hx, hZ, hlk, locs, X, N, H⟩ := B
  exact w.step fun t k => XS.iand X.here hx rfl hd rfl k
theorem W_ior (B : oB p l e R s m args below meth c Z h0 lo T cells slots ds) {x y z : Int32} (hd : decode c.code pc = .ok (.ior, 1)) (hp : pc + 1 = pc') (hz : x ||| y = z) (w : oWin p e below Z h0 Q E (T.setTop (mkF m pc' ls (.int z :: st)))) : oWin p e below Z h0 Q E (T.setTop (mkF m pc ls (.int y :: .int x :: st))) := by
  subst hp hz
  obtain ⟨hx, hZ, hlk, locs, X, N, H⟩ := B
  exact w.step fun t k => XS.ior X.here hx rfl hd rfl k
theorem W_ixor (B : oB p l e R s m args below meth c Z h0 lo T cells slots ds) {x y z : Int32} (hd : decode c.code pc = .ok (.ixor, 1)) (hp : pc + 1 = pc') (hz : x ^^^ y = z) (w : oWin p e below Z h0 Q E (T.setTop (mkF m pc' ls (.int z :: st)))) : oWin p e below Z h0 Q E (T.setTop (mkF m pc ls (.int y :: .int x :: st))) := by
  subst hp hz
  obtain ⟨hx, hZ, hlk, locs, X, N, H⟩ := B
  exact w.step fun t k => XS.ixor X.here hx rfl hd rfl k
theorem W_ineg (B : oB p l e R s m args below meth c Z h0 lo T cells slots ds) {x z : Int32} (hd : decode c.code pc = .ok (.ineg, 1)) (hp : pc + 1 = pc') (hz : -x = z) (w : oWin p e below Z h0 Q E (T.setTop (mkF m pc' ls (.int z :: st)))) : oWin p e below Z h0 Q E (T.setTop (mkF m pc ls (.int x :: st))) := by
  subst hp hz
  obtain ⟨hx, hZ, hlk, locs, X, N, H⟩ := B
  exact w.step fun t k => XS.ineg X.here hx rfl hd rfl k
theorem W_idiv (B : oB p l e R s m args below meth c Z h0 lo T cells slots ds) {x y z : Int32} (hd : decode c.code pc = .ok (.idiv, 1)) (hp : pc + 1 = pc') (hy : y ≠ 0) (hz : x / y = z) (w : oWin p e below Z h0 Q E (T.setTop (mkF m pc' ls (.int z :: st)))) : oWin p e below Z h0 Q E (T.setTop (mkF m pc ls (.int y :: .int x :: st))) := by
  subst hp hz
  obtain ⟨hx, hZ, hlk, locs, X, N, H⟩ := B
  exact w.step fun t k => XS.idiv X.here hx rfl hd rfl hy k
theorem W_lload (B : oB p l e R s m args below meth c Z h0 lo T cells slots ds) {i : Nat} {v : Int64} (hd : decode c.code pc = .ok (.lload i, 2)) (hp : pc + 2 = pc') (hl : ls[i]? = some (.val (.long v))) (w : oWin p e below Z h0 Q E (T.setTop (mkF m pc' ls (.long v :: st)))) : oWin p e below Z h0 Q E (T.setTop (mkF m pc ls (st))) := by
  subst hp
  obtain ⟨hx, hZ, hlk, locs, X, N, H⟩ := B
  exact w.step fun t k => XS.lload X.here hx rfl hd hl k
theorem W_lloadN (B : oB p l e R s m args below meth c Z h0 lo T cells slots ds) {i : Fin 4} {v : Int64} (hd : decode c.code pc = .ok (.lload_n i, 1)) (hp : pc + 1 = pc') (hl : ls[i.val]? = some (.val (.long v))) (w : oWin p e below Z h0 Q E (T.setTop (mkF m pc' ls (.long v :: st)))) : oWin p e below Z h0 Q E (T.setTop (mkF m pc ls (st))) := by
  subst hp
  obtain ⟨hx, hZ, hlk, locs, X, N, H⟩ := B
  exact w.step fun t k => XS.lloadN X.here hx rfl hd hl k
theorem W_lstore (B : oB p l e R s m args below meth c Z h0 lo T cells slots ds) {i : Nat} {x v : Int64} (hd : decode c.code pc = .ok (.lstore i, 2)) (hp : pc + 2 = pc') (hz : x = v) (hl : storeLocals ls i (.long v) = some ls') (w : oWin p e below Z h0 Q E (T.setTop (mkF m pc' ls' (st)))) : oWin p e below Z h0 Q E (T.setTop (mkF m pc ls (.long x :: st))) := by
  subst hp hz
  obtain ⟨hx, hZ, hlk, locs, X, N, H⟩ := B
  exact w.step fun t k => XS.lstore X.here hx rfl hd rfl hl k
theorem W_lstoreN (B : oB p l e R s m args below meth c Z h0 lo T cells slots ds) {i : Fin 4} {x v : Int64} (hd : decode c.code pc = .ok (.lstore_n i, 1)) (hp : pc + 1 = pc') (hz : x = v) (hl : storeLocals ls i.val (.long v) = some ls') (w : oWin p e below Z h0 Q E (T.setTop (mkF m pc' ls' (st)))) : oWin p e below Z h0 Q E (T.setTop (mkF m pc ls (.long x :: st))) := by
  subst hp hz
  obtain ⟨hx, hZ, hlk, locs, X, N, H⟩ := B
  exact w.step fun t k => XS.lstoreN X.here hx rfl hd rfl hl k
theorem W_ladd (B : oB p l e R s m args below meth c Z h0 lo T cells slots ds) {x y z : Int64} (hd : decode c.code pc = .ok (.ladd, 1)) (hp : pc + 1 = pc') (hz : x + y = z) (w : oWin p e below Z h0 Q E (T.setTop (mkF m pc' ls (.long z :: st)))) : oWin p e below Z h0 Q E (T.setTop (mkF m pc ls (.long y :: .long x :: st))) := by
  subst hp hz
  obtain ⟨hx, hZ, hlk, locs, X, N, H⟩ := B
  exact w.step fun t k => XS.ladd X.here hx rfl hd rfl k
theorem W_lsub (B : oB p l e R s m args below meth c Z h0 lo T cells slots ds) {x y z : Int64} (hd : decode c.code pc = .ok (.lsub, 1)) (hp : pc + 1 = pc') (hz : x - y = z) (w : oWin p e below Z h0 Q E (T.setTop (mkF m pc' ls (.long z :: st)))) : oWin p e below Z h0 Q E (T.setTop (mkF m pc ls (.long y :: .long x :: st))) := by
  subst hp hz
  obtain ⟨hx, hZ, hlk, locs, X, N, H⟩ := B
  exact w.step fun t k => XS.lsub X.here hx rfl hd rfl k
theorem W_lmul (B : oB p l e R s m args below meth c Z h0 lo T cells slots ds) {x y z : Int64} (hd : decode c.code pc = .ok (.lmul, 1)) (hp : pc + 1 = pc') (hz : x * y = z) (w : oWin p e below Z h0 Q E (T.setTop (mkF m pc' ls (.long z :: st)))) : oWin p e below Z h0 Q E (T.setTop (mkF m pc ls (.long y :: .long x :: st))) := by
  subst hp hz
  obtain ⟨hx, hZ, hlk, locs, X, N, H⟩ := B
  exact w.step fun t k => XS.lmul X.here hx rfl hd rfl k
theorem W_land (B : oB p l e R s m args below meth c Z h0 lo T cells slots ds) {x y z : Int64} (hd : decode c.code pc = .ok (.land, 1)) (hp : pc + 1 = pc') (hz : x &&& y = z) (w : oWin p e below Z h0 Q E (T.setTop (mkF m pc' ls (.long z :: st)))) : oWin p e below Z h0 Q E (T.setTop (mkF m pc ls (.long y :: .long x :: st))) := by
  subst hp hz
  obtain ⟨hx, hZ, hlk, locs, X, N, H⟩ := B
  exact w.step fun t k => XS.land X.here hx rfl hd rfl k
theorem W_lor (B : oB p l e R s m args below meth c Z h0 lo T cells slots ds) {x y z : Int64} (hd : decode c.code pc = .ok (.lor, 1)) (hp : pc + 1 = pc') (hz : x ||| y = z) (w : oWin p e below Z h0 Q E (T.setTop (mkF m pc' ls (.long z :: st)))) : oWin p e below Z h0 Q E (T.setTop (mkF m pc ls (.long y :: .long x :: st))) := by
  subst hp hz
  obtain ⟨hx, hZ, hlk, locs, X, N, H⟩ := B
  exact w.step fun t k => XS.lor X.here hx rfl hd rfl k
theorem W_lxor (B : oB p l e R s m args below meth c Z h0 lo T cells slots ds) {x y z : Int64} (hd : decode c.code pc = .ok (.lxor, 1)) (hp : pc + 1 = pc') (hz : x ^^^ y = z) (w : oWin p e below Z h0 Q E (T.setTop (mkF m pc' ls (.long z :: st)))) : oWin p e below Z h0 Q E (T.setTop (mkF m pc ls (.long y :: .long x :: st))) := by
  subst hp hz
  obtain ⟨hx, hZ, hlk, locs, X, N, H⟩ := B
  exact w.step fun t k => XS.lxor X.here hx rfl hd rfl k
theorem W_lneg (B : oB p l e R s m args below meth c Z h0 lo T cells slots ds) {x z : Int64} (hd : decode c.code pc = .ok (.lneg, 1)) (hp : pc + 1 = pc') (hz : -x = z) (w : oWin p e below Z h0 Q E (T.setTop (mkF m pc' ls (.long z :: st)))) : oWin p e below Z h0 Q E (T.setTop (mkF m pc ls (.long x :: st))) := by
  subst hp hz
  obtain ⟨hx, hZ, hlk, locs, X, N, H⟩ := B
  exact w.step fun t k => XS.lneg X.here hx rfl hd rfl k
theorem W_ldiv (B : oB p l e R s m args below meth c Z h0 lo T cells slots ds) {x y z : Int64} (hd : decode c.code pc = .ok (.ldiv, 1)) (hp : pc + 1 = pc') (hy : y ≠ 0) (hz : x / y = z) (w : oWin p e below Z h0 Q E (T.setTop (mkF m pc' ls (.long z :: st)))) : oWin p e below Z h0 Q E (T.setTop (mkF m pc ls (.long y :: .long x :: st))) := by
  subst hp hz
  obtain ⟨hx, hZ, hlk, locs, X, N, H⟩ := B
  exact w.step fun t k => XS.ldiv X.here hx rfl hd rfl hy k
theorem W_irem (B : oB p l e R s m args below meth c Z h0 lo T cells slots ds) {x y z : Int32} (hd : decode c.code pc = .ok (.irem, 1)) (hp : pc + 1 = pc') (hy : y ≠ 0) (hz : x % y = z) (w : oWin p e below Z h0 Q E (T.setTop (mkF m pc' ls (.int z :: st)))) : oWin p e below Z h0 Q E (T.setTop (mkF m pc ls (.int y :: .int x :: st))) := by
  subst hp hz
  obtain ⟨hx, hZ, hlk, locs, X, N, H⟩ := B
  exact w.step fun t k => iremM X hx rfl hd rfl hy k
theorem W_lrem (B : oB p l e R s m args below meth c Z h0 lo T cells slots ds) {x y z : Int64} (hd : decode c.code pc = .ok (.lrem, 1)) (hp : pc + 1 = pc') (hy : y ≠ 0) (hz : x - (x / y) * y = z) (w : oWin p e below Z h0 Q E (T.setTop (mkF m pc' ls (.long z :: st)))) : oWin p e below Z h0 Q E (T.setTop (mkF m pc ls (.long y :: .long x :: st))) := by
  subst hp hz
  obtain ⟨hx, hZ, hlk, locs, X, N, H⟩ := B
  exact w.step fun t k => XS.lrem X.here hx rfl hd rfl hy k
theorem W_ishl (B : oB p l e R s m args below meth c Z h0 lo T cells slots ds) {x y z : Int32} (hd : decode c.code pc = .ok (.ishl, 1)) (hp : pc + 1 = pc') (hz : x <<< (y &&& 31) = z) (w : oWin p e below Z h0 Q E (T.setTop (mkF m pc' ls (.int z :: st)))) : oWin p e below Z h0 Q E (T.setTop (mkF m pc ls (.int y :: .int x :: st))) := by
  subst hp hz
  obtain ⟨hx, hZ, hlk, locs, X, N, H⟩ := B
  exact w.step fun t k => XS.ishl X.here hx rfl hd rfl k
theorem W_ishr (B : oB p l e R s m args below meth c Z h0 lo T cells slots ds) {x y z : Int32} (hd : decode c.code pc = .ok (.ishr, 1)) (hp : pc + 1 = pc') (hz : x >>> (y &&& 31) = z) (w : oWin p e below Z h0 Q E (T.setTop (mkF m pc' ls (.int z :: st)))) : oWin p e below Z h0 Q E (T.setTop (mkF m pc ls (.int y :: .int x :: st))) := by
  subst hp hz
  obtain ⟨hx, hZ, hlk, locs, X, N, H⟩ := B
  exact w.step fun t k => XS.ishr X.here hx rfl hd rfl k
theorem W_iushr (B : oB p l e R s m args below meth c Z h0 lo T cells slots ds) {x y z : Int32} (hd : decode c.code pc = .ok (.iushr, 1)) (hp : pc + 1 = pc') (hz : (x.toUInt32 >>> (y &&& 31).toUInt32).toInt32 = z) (w : oWin p e below Z h0 Q E (T.setTop (mkF m pc' ls (.int z :: st)))) : oWin p e below Z h0 Q E (T.setTop (mkF m pc ls (.int y :: .int x :: st))) := by
  subst hp hz
  obtain ⟨hx, hZ, hlk, locs, X, N, H⟩ := B
  exact w.step fun t k => XS.iushr X.here hx rfl hd rfl k
theorem W_lshl (B : oB p l e R s m args below meth c Z h0 lo T cells slots ds) {x : Int64} {y : Int32} {z : Int64} (hd : decode c.code pc = .ok (.lshl, 1)) (hp : pc + 1 = pc') (hz : x <<< (y &&& 0x3f).toInt64 = z) (w : oWin p e below Z h0 Q E (T.setTop (mkF m pc' ls (.long z :: st)))) : oWin p e below Z h0 Q E (T.setTop (mkF m pc ls (.int y :: .long x :: st))) := by
  subst hp hz
  obtain ⟨hx, hZ, hlk, locs, X, N, H⟩ := B
  exact w.step fun t k => XS.lshl X.here hx rfl hd rfl k
theorem W_lshr (B : oB p l e R s m args below meth c Z h0 lo T cells slots ds) {x : Int64} {y : Int32} {z : Int64} (hd : decode c.code pc = .ok (.lshr, 1)) (hp : pc + 1 = pc') (hz : x >>> (y &&& 0x3f).toInt64 = z) (w : oWin p e below Z h0 Q E (T.setTop (mkF m pc' ls (.long z :: st)))) : oWin p e below Z h0 Q E (T.setTop (mkF m pc ls (.int y :: .long x :: st))) := by
  subst hp hz
  obtain ⟨hx, hZ, hlk, locs, X, N, H⟩ := B
  exact w.step fun t k => XS.lshr X.here hx rfl hd rfl k
theorem W_lushr (B : oB p l e R s m args below meth c Z h0 lo T cells slots ds) {x : Int64} {y : Int32} {z : Int64} (hd : decode c.code pc = .ok (.lushr, 1)) (hp : pc + 1 = pc') (hz : (x.toUInt64 >>> (y &&& 0x3f).toInt64.toUInt64).toInt64 = z) (w : oWin p e below Z h0 Q E (T.setTop (mkF m pc' ls (.long z :: st)))) : oWin p e below Z h0 Q E (T.setTop (mkF m pc ls (.int y :: .long x :: st))) := by
  subst hp hz
  obtain ⟨hx, hZ, hlk, locs, X, N, H⟩ := B
  exact w.step fun t k => XS.lushr X.here hx rfl hd rfl k
theorem W_i2b (B : oB p l e R s m args below meth c Z h0 lo T cells slots ds) {x : Int32} {z : Int32} (hd : decode c.code pc = .ok (.i2b, 1)) (hp : pc + 1 = pc') (hz : x.toInt8.toInt32 = z) (w : oWin p e below Z h0 Q E (T.setTop (mkF m pc' ls (.int z :: st)))) : oWin p e below Z h0 Q E (T.setTop (mkF m pc ls (.int x :: st))) := by
  subst hp hz
  obtain ⟨hx, hZ, hlk, locs, X, N, H⟩ := B
  exact w.step fun t k => XS.i2b X.here hx rfl hd rfl k
theorem W_i2c (B : oB p l e R s m args below meth c Z h0 lo T cells slots ds) {x : Int32} {z : Int32} (hd : decode c.code pc = .ok (.i2c, 1)) (hp : pc + 1 = pc') (hz : x.toUInt32.toUInt16.toUInt32.toInt32 = z) (w : oWin p e below Z h0 Q E (T.setTop (mkF m pc' ls (.int z :: st)))) : oWin p e below Z h0 Q E (T.setTop (mkF m pc ls (.int x :: st))) := by
  subst hp hz
  obtain ⟨hx, hZ, hlk, locs, X, N, H⟩ := B
  exact w.step fun t k => XS.i2c X.here hx rfl hd rfl k
theorem W_i2s (B : oB p l e R s m args below meth c Z h0 lo T cells slots ds) {x : Int32} {z : Int32} (hd : decode c.code pc = .ok (.i2s, 1)) (hp : pc + 1 = pc') (hz : x.toInt16.toInt32 = z) (w : oWin p e below Z h0 Q E (T.setTop (mkF m pc' ls (.int z :: st)))) : oWin p e below Z h0 Q E (T.setTop (mkF m pc ls (.int x :: st))) := by
  subst hp hz
  obtain ⟨hx, hZ, hlk, locs, X, N, H⟩ := B
  exact w.step fun t k => XS.i2s X.here hx rfl hd rfl k
theorem W_i2l (B : oB p l e R s m args below meth c Z h0 lo T cells slots ds) {x : Int32} {z : Int64} (hd : decode c.code pc = .ok (.i2l, 1)) (hp : pc + 1 = pc') (hz : x.toInt64 = z) (w : oWin p e below Z h0 Q E (T.setTop (mkF m pc' ls (.long z :: st)))) : oWin p e below Z h0 Q E (T.setTop (mkF m pc ls (.int x :: st))) := by
  subst hp hz
  obtain ⟨hx, hZ, hlk, locs, X, N, H⟩ := B
  exact w.step fun t k => XS.i2l X.here hx rfl hd rfl k
theorem W_l2i (B : oB p l e R s m args below meth c Z h0 lo T cells slots ds) {x : Int64} {z : Int32} (hd : decode c.code pc = .ok (.l2i, 1)) (hp : pc + 1 = pc') (hz : x.toInt32 = z) (w : oWin p e below Z h0 Q E (T.setTop (mkF m pc' ls (.int z :: st)))) : oWin p e below Z h0 Q E (T.setTop (mkF m pc ls (.long x :: st))) := by
  subst hp hz
  obtain ⟨hx, hZ, hlk, locs, X, N, H⟩ := B
  exact w.step fun t k => XS.l2i X.here hx rfl hd rfl k
theorem W_iconst (B : oB p l e R s m args below meth c Z h0 lo T cells slots ds) {i : Int} {z : Int32} (hd : decode c.code pc = .ok (.iconst i, 1)) (hp : pc + 1 = pc') (hz : Int32.ofInt i = z) (w : oWin p e below Z h0 Q E (T.setTop (mkF m pc' ls (.int z :: st)))) : oWin p e below Z h0 Q E (T.setTop (mkF m pc ls (st))) := by
  subst hp hz
  obtain ⟨hx, hZ, hlk, locs, X, N, H⟩ := B
  exact w.step fun t k => XS.iconst X.here hx rfl hd k
theorem W_bipush (B : oB p l e R s m args below meth c Z h0 lo T cells slots ds) {i : Int} {z : Int32} (hd : decode c.code pc = .ok (.bipush i, 2)) (hp : pc + 2 = pc') (hz : (Int8.ofInt i).toInt32 = z) (w : oWin p e below Z h0 Q E (T.setTop (mkF m pc' ls (.int z :: st)))) : oWin p e below Z h0 Q E (T.setTop (mkF m pc ls (st))) := by
  subst hp hz
  obtain ⟨hx, hZ, hlk, locs, X, N, H⟩ := B
  exact w.step fun t k => XS.bipush X.here hx rfl hd k
theorem W_sipush (B : oB p l e R s m args below meth c Z h0 lo T cells slots ds) {i : Int} {z : Int32} (hd : decode c.code pc = .ok (.sipush i, 3)) (hp : pc + 3 = pc') (hz : (Int16.ofInt i).toInt32 = z) (w : oWin p e below Z h0 Q E (T.setTop (mkF m pc' ls (.int z :: st)))) : oWin p e below Z h0 Q E (T.setTop (mkF m pc ls (st))) := by
  subst hp hz
  obtain ⟨hx, hZ, hlk, locs, X, N, H⟩ := B
  exact w.step fun t k => XS.sipush X.here hx rfl hd k
theorem W_lconst (B : oB p l e R s m args below meth c Z h0 lo T cells slots ds) {i : Fin 2} {z : Int64} (hd : decode c.code pc = .ok (.lconst i, 1)) (hp : pc + 1 = pc') (hz : Int64.ofNat i = z) (w : oWin p e below Z h0 Q E (T.setTop (mkF m pc' ls (.long z :: st)))) : oWin p e below Z h0 Q E (T.setTop (mkF m pc ls (st))) := by
  subst hp hz
  obtain ⟨hx, hZ, hlk, locs, X, N, H⟩ := B
  exact w.step fun t k => XS.lconst X.here hx rfl hd k
theorem W_aconstNull (B : oB p l e R s m args below meth c Z h0 lo T cells slots ds)  (hd : decode c.code pc = .ok (.aconst_null, 1)) (hp : pc + 1 = pc')  (w : oWin p e below Z h0 Q E (T.setTop (mkF m pc' ls (.null :: st)))) : oWin p e below Z h0 Q E (T.setTop (mkF m pc ls (st))) := by
  subst hp
  obtain ⟨hx, hZ, hlk, locs, X, N, H⟩ := B
  exact w.step fun t k => XS.aconstNull X.here hx rfl hd k
theorem W_aload (B : oB p l e R s m args below meth c Z h0 lo T cells slots ds) {i : Nat} {v : Value} (hd : decode c.code pc = .ok (.aload i, 2)) (hp : pc + 2 = pc') (hl : ls[i]? = some (.val v)) (hv : v.isRef = true) (w : oWin p e below Z h0 Q E (T.setTop (mkF m pc' ls (v :: st)))) : oWin p e below Z h0 Q E (T.setTop (mkF m pc ls (st))) := by
  subst hp
  obtain ⟨hx, hZ, hlk, locs, X, N, H⟩ := B
  exact w.step fun t k => XS.aload X.here hx rfl hd hl hv k
theorem W_aloadN (B : oB p l e R s m args below meth c Z h0 lo T cells slots ds) {i : Fin 4} {v : Value} (hd : decode c.code pc = .ok (.aload_n i, 1)) (hp : pc + 1 = pc') (hl : ls[i.val]? = some (.val v)) (hv : v.isRef = true) (w : oWin p e below Z h0 Q E (T.setTop (mkF m pc' ls (v :: st)))) : oWin p e below Z h0 Q E (T.setTop (mkF m pc ls (st))) := by
  subst hp
  obtain ⟨hx, hZ, hlk, locs, X, N, H⟩ := B
  exact w.step fun t k => XS.aloadN X.here hx rfl hd hl hv k
theorem W_astore (B : oB p l e R s m args below meth c Z h0 lo T cells slots ds) {i : Nat} {x : Value} (hd : decode c.code pc = .ok (.astore i, 2)) (hp : pc + 2 = pc') (hv : x.isRef = true) (hl : storeLocals ls i x = some ls') (w : oWin p e below Z h0 Q E (T.setTop (mkF m pc' ls' (st)))) : oWin p e below Z h0 Q E (T.setTop (mkF m pc ls (x :: st))) := by
  subst hp
  obtain ⟨hx, hZ, hlk, locs, X, N, H⟩ := B
  exact w.step fun t k => XS.astore X.here hx rfl hd rfl hv hl k
theorem W_astoreN (B : oB p l e R s m args below meth c Z h0 lo T cells slots ds) {i : Fin 4} {x : Value} (hd : decode c.code pc = .ok (.astore_n i, 1)) (hp : pc + 1 = pc') (hv : x.isRef = true) (hl : storeLocals ls i.val x = some ls') (w : oWin p e below Z h0 Q E (T.setTop (mkF m pc' ls' (st)))) : oWin p e below Z h0 Q E (T.setTop (mkF m pc ls (x :: st))) := by
  subst hp
  obtain ⟨hx, hZ, hlk, locs, X, N, H⟩ := B
  exact w.step fun t k => XS.astoreN X.here hx rfl hd rfl hv hl k
theorem W_dup (B : oB p l e R s m args below meth c Z h0 lo T cells slots ds) {x : Value} (hd : decode c.code pc = .ok (.dup, 1)) (hp : pc + 1 = pc') (hc : x.category = 1) (w : oWin p e below Z h0 Q E (T.setTop (mkF m pc' ls (x :: x :: st)))) : oWin p e below Z h0 Q E (T.setTop (mkF m pc ls (x :: st))) := by
  subst hp
  obtain ⟨hx, hZ, hlk, locs, X, N, H⟩ := B
  exact w.step fun t k => XS.dup X.here hx rfl hd rfl hc k
theorem W_pop (B : oB p l e R s m args below meth c Z h0 lo T cells slots ds) {x : Value} (hd : decode c.code pc = .ok (.pop, 1)) (hp : pc + 1 = pc') (hc : x.category = 1) (w : oWin p e below Z h0 Q E (T.setTop (mkF m pc' ls (st)))) : oWin p e below Z h0 Q E (T.setTop (mkF m pc ls (x :: st))) := by
  subst hp
  obtain ⟨hx, hZ, hlk, locs, X, N, H⟩ := B
  exact w.step fun t k => XS.pop X.here hx rfl hd rfl hc k
theorem W_dupX1 (B : oB p l e R s m args below meth c Z h0 lo T cells slots ds) {x y : Value} (hd : decode c.code pc = .ok (.dup_x1, 1)) (hp : pc + 1 = pc') (hc : x.category = 1) (hc2 : y.category = 1) (w : oWin p e below Z h0 Q E (T.setTop (mkF m pc' ls (x :: y :: x :: st)))) : oWin p e below Z h0 Q E (T.setTop (mkF m pc ls (x :: y :: st))) := by
  subst hp
  obtain ⟨hx, hZ, hlk, locs, X, N, H⟩ := B
  exact w.step fun t k => XS.dupX1 X.here hx rfl hd rfl hc hc2 k
theorem W_dup2 (B : oB p l e R s m args below meth c Z h0 lo T cells slots ds) {x y : Value} (hd : decode c.code pc = .ok (.dup2, 1)) (hp : pc + 1 = pc') (hc : x.category = 1) (hc2 : y.category = 1) (w : oWin p e below Z h0 Q E (T.setTop (mkF m pc' ls (x :: y :: x :: y :: st)))) : oWin p e below Z h0 Q E (T.setTop (mkF m pc ls (x :: y :: st))) := by
  subst hp
  obtain ⟨hx, hZ, hlk, locs, X, N, H⟩ := B
  refine w.step fun t k => ?_
  show Steps p.tables e below (T.setTop { method := m, pc := pc, locals := ls, stack := x :: y :: st, locked := none }) _
  jvm_step X.here [X.here.top, hx, hd, hc, hc2]
  exact k
theorem W_iinc (B : oB p l e R s m args below meth c Z h0 lo T cells slots ds) {i : Nat} {d : Int} {x z : Int32} (hd : decode c.code pc = .ok (.iinc i d, 3)) (hp : pc + 3 = pc') (hl : ls[i]? = some (.val (.int x))) (hz : x + Int32.ofInt d = z) (hl' : storeLocals ls i (.int z) = some ls') (w : oWin p e below Z h0 Q E (T.setTop (mkF m pc' ls' (st)))) : oWin p e below Z h0 Q E (T.setTop (mkF m pc ls (st))) := by
  subst hp hz
  obtain ⟨hx, hZ, hlk, locs, X, N, H⟩ := B
  exact w.step fun t k => XS.iinc X.here hx rfl hd hl hl' k
theorem W_goto (B : oB p l e R s m args below meth c Z h0 lo T cells slots ds) {o : Int} (hd : decode c.code pc = .ok (.goto o, 3)) (ho : 0 ≤ (pc : Int) + o) (hp : ((pc : Int) + o).toNat = pc') (w : oWin p e below Z h0 Q E (T.setTop (mkF m pc' ls st))) : oWin p e below Z h0 Q E (T.setTop (mkF m pc ls st)) := by
  obtain ⟨hx, hZ, hlk, locs, X, N, H⟩ := B
  exact w.step fun t k => XS.goto X.here hx rfl rfl hd ho hp k
theorem W_icmpY (B : oB p l e R s m args below meth c Z h0 lo T cells slots ds) {cd : ClassFile.Cond} {x y : Int32} {o : Int} (hd : decode c.code pc = .ok (.if_icmp cd o, 3)) (ho : 0 ≤ (pc : Int) + o) (hp : ((pc : Int) + o).toNat = pc') (hc : if_icmp.holds cd x y = true) (w : oWin p e below Z h0 Q E (T.setTop (mkF m pc' ls st))) : oWin p e below Z h0 Q E (T.setTop (mkF m pc ls (.int y :: .int x :: st))) := by
  obtain ⟨hx, hZ, hlk, locs, X, N, H⟩ := B
  exact w.step fun t k => XS.icmpYes X.here hx rfl rfl hd rfl hc ho hp k
theorem W_icmpN (B : oB p l e R s m args below meth c Z h0 lo T cells slots ds) {cd : ClassFile.Cond} {x y : Int32} {o : Int} (hd : decode c.code pc = .ok (.if_icmp cd o, 3)) (hp : pc + 3 = pc') (hc : if_icmp.holds cd x y = false) (w : oWin p e below Z h0 Q E (T.setTop (mkF m pc' ls st))) : oWin p e below Z h0 Q E (T.setTop (mkF m pc ls (.int y :: .int x :: st))) := by
  subst hp
  obtain ⟨hx, hZ, hlk, locs, X, N, H⟩ := B
  exact w.step fun t k => XS.icmpNo X.here hx rfl hd rfl hc k
theorem W_ifY (B : oB p l e R s m args below meth c Z h0 lo T cells slots ds) {cd : ClassFile.Cond} {x : Int32} {o : Int} (hd : decode c.code pc = .ok (.ifCond cd o, 3)) (ho : 0 ≤ (pc : Int) + o) (hp : ((pc : Int) + o).toNat = pc') (hc : if_icmp.holds cd x 0 = true) (w : oWin p e below Z h0 Q E (T.setTop (mkF m pc' ls st))) : oWin p e below Z h0 Q E (T.setTop (mkF m pc ls (.int x :: st))) := by
  obtain ⟨hx, hZ, hlk, locs, X, N, H⟩ := B
  exact w.step fun t k => XS.ifYes X.here hx rfl rfl hd rfl ((if0 _ _).trans hc) ho hp k
theorem W_ifN (B : oB p l e R s m args below meth c Z h0 lo T cells slots ds) {cd : ClassFile.Cond} {x : Int32} {o : Int} (hd : decode c.code pc = .ok (.ifCond cd o, 3)) (hp : pc + 3 = pc') (hc : if_icmp.holds cd x 0 = false) (w : oWin p e below Z h0 Q E (T.setTop (mkF m pc' ls st))) : oWin p e below Z h0 Q E (T.setTop (mkF m pc ls (.int x :: st))) := by
  subst hp
  obtain ⟨hx, hZ, hlk, locs, X, N, H⟩ := B
  exact w.step fun t k => XS.ifNo X.here hx rfl hd rfl ((if0 _ _).trans hc) k
theorem W_icmp_eq (B : oB p l e R s m args below meth c Z h0 lo T cells slots ds) {x y : Int32} {o : Int} {pt : Nat} (hd : decode c.code pc = .ok (.if_icmp .eq o, 3)) (ho : 0 ≤ (pc : Int) + o) (ht : ((pc : Int) + o).toNat = pt) (hp : pc + 3 = pc') (w1 : x = y → oWin p e below Z h0 Q E (T.setTop (mkF m pt ls st))) (w2 : ¬ x = y → oWin p e below Z h0 Q E (T.setTop (mkF m pc' ls st))) : oWin p e below Z h0 Q E (T.setTop (mkF m pc ls (.int y :: .int x :: st))) := by
  by_cases h : x = y
  · exact W_icmpY B hd ho ht (teq h).1 (w1 h)
  · exact W_icmpN B hd hp (feq h).1 (w2 h)
theorem W_if_eq (B : oB p l e R s m args below meth c Z h0 lo T cells slots ds) {x : Int32} {o : Int} {pt : Nat} (hd : decode c.code pc = .ok (.ifCond .eq o, 3)) (ho : 0 ≤ (pc : Int) + o) (ht : ((pc : Int) + o).toNat = pt) (hp : pc + 3 = pc') (w1 : x = 0 → oWin p e below Z h0 Q E (T.setTop (mkF m pt ls st))) (w2 : ¬ x = 0 → oWin p e below Z h0 Q E (T.setTop (mkF m pc' ls st))) : oWin p e below Z h0 Q E (T.setTop (mkF m pc ls (.int x :: st))) := by
  by_cases h : x = 0
  · exact W_ifY B hd ho ht (teq h).1 (w1 h)
  · exact W_ifN B hd hp (feq h).1 (w2 h)
theorem W_lcmpY_eq (B : oB p l e R s m args below meth c Z h0 lo T cells slots ds) {x y : Int64} {o : Int} (hd : decode c.code pc = .ok (.lcmp, 1)) (hd' : decode c.code (pc + 1) = .ok (.ifCond .eq o, 3)) (ho : 0 ≤ ((pc + 1 : Nat) : Int) + o) (ht : (((pc + 1 : Nat) : Int) + o).toNat = pc') (hc : x = y) (w : oWin p e below Z h0 Q E (T.setTop (mkF m pc' ls st))) : oWin p e below Z h0 Q E (T.setTop (mkF m pc ls (.long y :: .long x :: st))) := by
  have w' := W_ifY (x := lcmpV x y) (st := st) B hd' ho ht (by have h : lcmpV x y = 0 := (lc_eq x y).mpr hc; exact (teq h).1) w
  obtain ⟨hx, hZ, hlk, locs, X, N, H⟩ := B
  exact w'.step fun t k => XS.lcmp X.here hx rfl hd rfl (by show Steps p.tables e below (T.setTop (mkF m (pc + 1) ls (.int (lcmpW x y) :: st))) t; rw [lcW]; exact k)
theorem W_lcmpN_eq (B : oB p l e R s m args below meth c Z h0 lo T cells slots ds) {x y : Int64} {o : Int} (hd : decode c.code pc = .ok (.lcmp, 1)) (hd' : decode c.code (pc + 1) = .ok (.ifCond .eq o, 3)) (hp : pc + 1 + 3 = pc') (hc : ¬ x = y) (w : oWin p e below Z h0 Q E (T.setTop (mkF m pc' ls st))) : oWin p e below Z h0 Q E (T.setTop (mkF m pc ls (.long y :: .long x :: st))) := by
  have w' := W_ifN (x := lcmpV x y) (st := st) B hd' hp (by have h : ¬ lcmpV x y = 0 := fun q => hc ((lc_eq x y).mp q); exact (feq h).1) w
  obtain ⟨hx, hZ, hlk, locs, X, N, H⟩ := B
  exact w'.step fun t k => XS.lcmp X.here hx rfl hd rfl (by show Steps p.tables e below (T.setTop (mkF m (pc + 1) ls (.int (lcmpW x y) :: st))) t; rw [lcW]; exact k)
theorem W_lcmp_eq (B : oB p l e R s m args below meth c Z h0 lo T cells slots ds) {x y : Int64} {o : Int} {pt : Nat} (hd : decode c.code pc = .ok (.lcmp, 1)) (hd' : decode c.code (pc + 1) = .ok (.ifCond .eq o, 3)) (ho : 0 ≤ ((pc + 1 : Nat) : Int) + o) (ht : (((pc + 1 : Nat) : Int) + o).toNat = pt) (hp : pc + 1 + 3 = pc') (w1 : x = y → oWin p e below Z h0 Q E (T.setTop (mkF m pt ls st))) (w2 : ¬ x = y → oWin p e below Z h0 Q E (T.setTop (mkF m pc' ls st))) : oWin p e below Z h0 Q E (T.setTop (mkF m pc ls (.long y :: .long x :: st))) := by
  by_cases h : x = y
  · exact W_lcmpY_eq B hd hd' ho ht h (w1 h)
  · exact W_lcmpN_eq B hd hd' hp h (w2 h)
theorem W_icmp_ne (B : oB p l e R s m args below meth c Z h0 lo T cells slots ds) {x y : Int32} {o : Int} {pt : Nat} (hd : decode c.code pc = .ok (.if_icmp .ne o, 3)) (ho : 0 ≤ (pc : Int) + o) (ht : ((pc : Int) + o).toNat = pt) (hp : pc + 3 = pc') (w1 : ¬ x = y → oWin p e below Z h0 Q E (T.setTop (mkF m pt ls st))) (w2 : x = y → oWin p e below Z h0 Q E (T.setTop (mkF m pc' ls st))) : oWin p e below Z h0 Q E (T.setTop (mkF m pc ls (.int y :: .int x :: st))) := by
  by_cases h : x = y
  · exact W_icmpN B hd hp (teq h).2 (w2 h)
  · exact W_icmpY B hd ho ht (feq h).2 (w1 h)
theorem W_if_ne (B : oB p l e R s m args below meth c Z h0 lo T cells slots ds) {x : Int32} {o : Int} {pt : Nat} (hd : decode c.code pc = .ok (.ifCond .ne o, 3)) (ho : 0 ≤ (pc : Int) + o) (ht : ((pc : Int) + o).toNat = pt) (hp : pc + 3 = pc') (w1 : ¬ x = 0 → oWin p e below Z h0 Q E (T.setTop (mkF m pt ls st))) (w2 : x = 0 → oWin p e below Z h0 Q E (T.setTop (mkF m pc' ls st))) : oWin p e below Z h0 Q E (T.setTop (mkF m pc ls (.int x :: st))) := by
  by_cases h : x = 0
  · exact W_ifN B hd hp (teq h).2 (w2 h)
  · exact W_ifY B hd ho ht (feq h).2 (w1 h)
theorem W_lcmpY_ne (B : oB p l e R s m args below meth c Z h0 lo T cells slots ds) {x y : Int64} {o : Int} (hd : decode c.code pc = .ok (.lcmp, 1)) (hd' : decode c.code (pc + 1) = .ok (.ifCond .ne o, 3)) (ho : 0 ≤ ((pc + 1 : Nat) : Int) + o) (ht : (((pc + 1 : Nat) : Int) + o).toNat = pc') (hc : ¬ x = y) (w : oWin p e below Z h0 Q E (T.setTop (mkF m pc' ls st))) : oWin p e below Z h0 Q E (T.setTop (mkF m pc ls (.long y :: .long x :: st))) := by
  have w' := W_ifY (x := lcmpV x y) (st := st) B hd' ho ht (by have h : ¬ lcmpV x y = 0 := fun q => hc ((lc_eq x y).mp q); exact (feq h).2) w
  obtain ⟨hx, hZ, hlk, locs, X, N, H⟩ := B
  exact w'.step fun t k => XS.lcmp X.here hx rfl hd rfl (by show Steps p.tables e below (T.setTop (mkF m (pc + 1) ls (.int (lcmpW x y) :: st))) t; rw [lcW]; exact k)
theorem W_lcmpN_ne (B : oB p l e R s m args below meth c Z h0 lo T cells slots ds) {x y : Int64} {o : Int} (hd : decode c.code pc = .ok (.lcmp, 1)) (hd' : decode c.code (pc + 1) = .ok (.ifCond .ne o, 3)) (hp : pc + 1 + 3 = pc') (hc : x = y) (w : oWin p e below Z h0 Q E (T.setTop (mkF m pc' ls st))) : oWin p e below Z h0 Q E (T.setTop (mkF m pc ls (.long y :: .long x :: st))) := by
  have w' := W_ifN (x := lcmpV x y) (st := st) B hd' hp (by have h : lcmpV x y = 0 := (lc_eq x y).mpr hc; exact (teq h).2) w
  obtain ⟨hx, hZ, hlk, locs, X, N, H⟩ := B
  exact w'.step fun t k => XS.lcmp X.here hx rfl hd rfl (by show Steps p.tables e below (T.setTop (mkF m (pc + 1) ls (.int (lcmpW x y) :: st))) t; rw [lcW]; exact k)
theorem W_lcmp_ne (B : oB p l e R s m args below meth c Z h0 lo T cells slots ds) {x y : Int64} {o : Int} {pt : Nat} (hd : decode c.code pc = .ok (.lcmp, 1)) (hd' : decode c.code (pc + 1) = .ok (.ifCond .ne o, 3)) (ho : 0 ≤ ((pc + 1 : Nat) : Int) + o) (ht : (((pc + 1 : Nat) : Int) + o).toNat = pt) (hp : pc + 1 + 3 = pc') (w1 : ¬ x = y → oWin p e below Z h0 Q E (T.setTop (mkF m pt ls st))) (w2 : x = y → oWin p e below Z h0 Q E (T.setTop (mkF m pc' ls st))) : oWin p e below Z h0 Q E (T.setTop (mkF m pc ls (.long y :: .long x :: st))) := by
  by_cases h : x = y
  · exact W_lcmpN_ne B hd hd' hp h (w2 h)
  · exact W_lcmpY_ne B hd hd' ho ht h (w1 h)
theorem W_icmp_lt (B : oB p l e R s m args below meth c Z h0 lo T cells slots ds) {x y : Int32} {o : Int} {pt : Nat} (hd : decode c.code pc = .ok (.if_icmp .lt o, 3)) (ho : 0 ≤ (pc : Int) + o) (ht : ((pc : Int) + o).toNat = pt) (hp : pc + 3 = pc') (w1 : x < y → oWin p e below Z h0 Q E (T.setTop (mkF m pt ls st))) (w2 : ¬ x < y → oWin p e below Z h0 Q E (T.setTop (mkF m pc' ls st))) : oWin p e below Z h0 Q E (T.setTop (mkF m pc ls (.int y :: .int x :: st))) := by
  by_cases h : x < y
  · exact W_icmpY B hd ho ht (tlt h).1 (w1 h)
  · exact W_icmpN B hd hp (flt h).1 (w2 h)
theorem W_if_lt (B : oB p l e R s m args below meth c Z h0 lo T cells slots ds) {x : Int32} {o : Int} {pt : Nat} (hd : decode c.code pc = .ok (.ifCond .lt o, 3)) (ho : 0 ≤ (pc : Int) + o) (ht : ((pc : Int) + o).toNat = pt) (hp : pc + 3 = pc') (w1 : x < 0 → oWin p e below Z h0 Q E (T.setTop (mkF m pt ls st))) (w2 : ¬ x < 0 → oWin p e below Z h0 Q E (T.setTop (mkF m pc' ls st))) : oWin p e below Z h0 Q E (T.setTop (mkF m pc ls (.int x :: st))) := by
  by_cases h : x < 0
  · exact W_ifY B hd ho ht (tlt h).1 (w1 h)
  · exact W_ifN B hd hp (flt h).1 (w2 h)
theorem W_lcmpY_lt (B : oB p l e R s m args below meth c Z h0 lo T cells slots ds) {x y : Int64} {o : Int} (hd : decode c.code pc = .ok (.lcmp, 1)) (hd' : decode c.code (pc + 1) = .ok (.ifCond .lt o, 3)) (ho : 0 ≤ ((pc + 1 : Nat) : Int) + o) (ht : (((pc + 1 : Nat) : Int) + o).toNat = pc') (hc : x < y) (w : oWin p e below Z h0 Q E (T.setTop (mkF m pc' ls st))) : oWin p e below Z h0 Q E (T.setTop (mkF m pc ls (.long y :: .long x :: st))) := by
  have w' := W_ifY (x := lcmpV x y) (st := st) B hd' ho ht (by have h : lcmpV x y < 0 := (lc_lt x y).mpr hc; exact (tlt h).1) w
  obtain ⟨hx, hZ, hlk, locs, X, N, H⟩ := B
  exact w'.step fun t k => XS.lcmp X.here hx rfl hd rfl (by show Steps p.tables e below (T.setTop (mkF m (pc + 1) ls (.int (lcmpW x y) :: st))) t; rw [lcW]; exact k)
theorem W_lcmpN_lt (B : oB p l e R s m args below meth c Z h0 lo T cells slots ds) {x y : Int64} {o : Int} (hd : decode c.code pc = .ok (.lcmp, 1)) (hd' : decode c.code (pc + 1) = .ok (.ifCond .lt o, 3)) (hp : pc + 1 + 3 = pc') (hc : ¬ x < y) (w : oWin p e below Z h0 Q E (T.setTop (mkF m pc' ls st))) : oWin p e below Z h0 Q E (T.setTop (mkF m pc ls (.long y :: .long x :: st))) := by
  have w' := W_ifN (x := lcmpV x y) (st := st) B hd' hp (by have h : ¬ lcmpV x y < 0 := fun q => hc ((lc_lt x y).mp q); exact (flt h).1) w
  obtain ⟨hx, hZ, hlk, locs, X, N, H⟩ := B
  exact w'.step fun t k => XS.lcmp X.here hx rfl hd rfl (by show Steps p.tables e below (T.setTop (mkF m (pc + 1) ls (.int (lcmpW x y) :: st))) t; rw [lcW]; exact k)
theorem W_lcmp_lt (B : oB p l e R s m args below meth c Z h0 lo T cells slots ds) {x y : Int64} {o : Int} {pt : Nat} (hd : decode c.code pc = .ok (.lcmp, 1)) (hd' : decode c.code (pc + 1) = .ok (.ifCond .lt o, 3)) (ho : 0 ≤ ((pc + 1 : Nat) : Int) + o) (ht : (((pc + 1 : Nat) : Int) + o).toNat = pt) (hp : pc + 1 + 3 = pc') (w1 : x < y → oWin p e below Z h0 Q E (T.setTop (mkF m pt ls st))) (w2 : ¬ x < y → oWin p e below Z h0 Q E (T.setTop (mkF m pc' ls st))) : oWin p e below Z h0 Q E (T.setTop (mkF m pc ls (.long y :: .long x :: st))) := by
  by_cases h : x < y
  · exact W_lcmpY_lt B hd hd' ho ht h (w1 h)
  · exact W_lcmpN_lt B hd hd' hp h (w2 h)
theorem W_icmp_ge (B : oB p l e R s m args below meth c Z h0 lo T cells slots ds) {x y : Int32} {o : Int} {pt : Nat} (hd : decode c.code pc = .ok (.if_icmp .ge o, 3)) (ho : 0 ≤ (pc : Int) + o) (ht : ((pc : Int) + o).toNat = pt) (hp : pc + 3 = pc') (w1 : ¬ x < y → oWin p e below Z h0 Q E (T.setTop (mkF m pt ls st))) (w2 : x < y → oWin p e below Z h0 Q E (T.setTop (mkF m pc' ls st))) : oWin p e below Z h0 Q E (T.setTop (mkF m pc ls (.int y :: .int x :: st))) := by
  by_cases h : x < y
  · exact W_icmpN B hd hp (tlt h).2.1 (w2 h)
  · exact W_icmpY B hd ho ht (flt h).2.1 (w1 h)
theorem W_if_ge (B : oB p l e R s m args below meth c Z h0 lo T cells slots ds) {x : Int32} {o : Int} {pt : Nat} (hd : decode c.code pc = .ok (.ifCond .ge o, 3)) (ho : 0 ≤ (pc : Int) + o) (ht : ((pc : Int) + o).toNat = pt) (hp : pc + 3 = pc') (w1 : ¬ x < 0 → oWin p e below Z h0 Q E (T.setTop (mkF m pt ls st))) (w2 : x < 0 → oWin p e below Z h0 Q E (T.setTop (mkF m pc' ls st))) : oWin p e below Z h0 Q E (T.setTop (mkF m pc ls (.int x :: st))) := by
  by_cases h : x < 0
  · exact W_ifN B hd hp (tlt h).2.1 (w2 h)
  · exact W_ifY B hd ho ht (flt h).2.1 (w1 h)
theorem W_lcmpY_ge (B : oB p l e R s m args below meth c Z h0 lo T cells slots ds) {x y : Int64} {o : Int} (hd : decode c.code pc = .ok (.lcmp, 1)) (hd' : decode c.code (pc + 1) = .ok (.ifCond .ge o, 3)) (ho : 0 ≤ ((pc + 1 : Nat) : Int) + o) (ht : (((pc + 1 : Nat) : Int) + o).toNat = pc') (hc : ¬ x < y) (w : oWin p e below Z h0 Q E (T.setTop (mkF m pc' ls st))) : oWin p e below Z h0 Q E (T.setTop (mkF m pc ls (.long y :: .long x :: st))) := by
  have w' := W_ifY (x := lcmpV x y) (st := st) B hd' ho ht (by have h : ¬ lcmpV x y < 0 := fun q => hc ((lc_lt x y).mp q); exact (flt h).2.1) w
  obtain ⟨hx, hZ, hlk, locs, X, N, H⟩ := B
  exact w'.step fun t k => XS.lcmp X.here hx rfl hd rfl (by show Steps p.tables e below (T.setTop (mkF m (pc + 1) ls (.int (lcmpW x y) :: st))) t; rw [lcW]; exact k)
theorem W_lcmpN_ge (B : oB p l e R s m args below meth c Z h0 lo T cells slots ds) {x y : Int64} {o : Int} (hd : decode c.code pc = .ok (.lcmp, 1)) (hd' : decode c.code (pc + 1) = .ok (.ifCond .ge o, 3)) (hp : pc + 1 + 3 = pc') (hc : x < y) (w : oWin p e below Z h0 Q E (T.setTop (mkF m pc' ls st))) : oWin p e below Z h0 Q E (T.setTop (mkF m pc ls (.long y :: .long x :: st))) := by
  have w' := W_ifN (x := lcmpV x y) (st := st) B hd' hp (by have h : lcmpV x y < 0 := (lc_lt x y).mpr hc; exact (tlt h).2.1) w
  obtain ⟨hx, hZ, hlk, locs, X, N, H⟩ := B
  exact w'.step fun t k => XS.lcmp X.here hx rfl hd rfl (by show Steps p.tables e below (T.setTop (mkF m (pc + 1) ls (.int (lcmpW x y) :: st))) t; rw [lcW]; exact k)
theorem W_lcmp_ge (B : oB p l e R s m args below meth c Z h0 lo T cells slots ds) {x y : Int64} {o : Int} {pt : Nat} (hd : decode c.code pc = .ok (.lcmp, 1)) (hd' : decode c.code (pc + 1) = .ok (.ifCond .ge o, 3)) (ho : 0 ≤ ((pc + 1 : Nat) : Int) + o) (ht : (((pc + 1 : Nat) : Int) + o).toNat = pt) (hp : pc + 1 + 3 = pc') (w1 : ¬ x < y → oWin p e below Z h0 Q E (T.setTop (mkF m pt ls st))) (w2 : x < y → oWin p e below Z h0 Q E (T.setTop (mkF m pc' ls st))) : oWin p e below Z h0 Q E (T.setTop (mkF m pc ls (.long y :: .long x :: st))) := by
  by_cases h : x < y
  · exact W_lcmpN_ge B hd hd' hp h (w2 h)
  · exact W_lcmpY_ge B hd hd' ho ht h (w1 h)
theorem W_icmp_gt (B : oB p l e R s m args below meth c Z h0 lo T cells slots ds) {x y : Int32} {o : Int} {pt : Nat} (hd : decode c.code pc = .ok (.if_icmp .gt o, 3)) (ho : 0 ≤ (pc : Int) + o) (ht : ((pc : Int) + o).toNat = pt) (hp : pc + 3 = pc') (w1 : y < x → oWin p e below Z h0 Q E (T.setTop (mkF m pt ls st))) (w2 : ¬ y < x → oWin p e below Z h0 Q E (T.setTop (mkF m pc' ls st))) : oWin p e below Z h0 Q E (T.setTop (mkF m pc ls (.int y :: .int x :: st))) := by
  by_cases h : y < x
  · exact W_icmpY B hd ho ht (tlt h).2.2.1 (w1 h)
  · exact W_icmpN B hd hp (flt h).2.2.1 (w2 h)
theorem W_if_gt (B : oB p l e R s m args below meth c Z h0 lo T cells slots ds) {x : Int32} {o : Int} {pt : Nat} (hd : decode c.code pc = .ok (.ifCond .gt o, 3)) (ho : 0 ≤ (pc : Int) + o) (ht : ((pc : Int) + o).toNat = pt) (hp : pc + 3 = pc') (w1 : 0 < x → oWin p e below Z h0 Q E (T.setTop (mkF m pt ls st))) (w2 : ¬ 0 < x → oWin p e below Z h0 Q E (T.setTop (mkF m pc' ls st))) : oWin p e below Z h0 Q E (T.setTop (mkF m pc ls (.int x :: st))) := by
  by_cases h : 0 < x
  · exact W_ifY B hd ho ht (tlt h).2.2.1 (w1 h)
  · exact W_ifN B hd hp (flt h).2.2.1 (w2 h)
theorem W_lcmpY_gt (B : oB p l e R s m args below meth c Z h0 lo T cells slots ds) {x y : Int64} {o : Int} (hd : decode c.code pc = .ok (.lcmp, 1)) (hd' : decode c.code (pc + 1) = .ok (.ifCond .gt o, 3)) (ho : 0 ≤ ((pc + 1 : Nat) : Int) + o) (ht : (((pc + 1 : Nat) : Int) + o).toNat = pc') (hc : y < x) (w : oWin p e below Z h0 Q E (T.setTop (mkF m pc' ls st))) : oWin p e below Z h0 Q E (T.setTop (mkF m pc ls (.long y :: .long x :: st))) := by
  have w' := W_ifY (x := lcmpV x y) (st := st) B hd' ho ht (by have h : 0 < lcmpV x y := (lc_gt x y).mpr hc; exact (tlt h).2.2.1) w
  obtain ⟨hx, hZ, hlk, locs, X, N, H⟩ := B
  exact w'.step fun t k => XS.lcmp X.here hx rfl hd rfl (by show Steps p.tables e below (T.setTop (mkF m (pc + 1) ls (.int (lcmpW x y) :: st))) t; rw [lcW]; exact k)
theorem W_lcmpN_gt (B : oB p l e R s m args below meth c Z h0 lo T cells slots ds) {x y : Int64} {o : Int} (hd : decode c.code pc = .ok (.lcmp, 1)) (hd' : decode c.code (pc + 1) = .ok (.ifCond .gt o, 3)) (hp : pc + 1 + 3 = pc') (hc : ¬ y < x) (w : oWin p e below Z h0 Q E (T.setTop (mkF m pc' ls st))) : oWin p e below Z h0 Q E (T.setTop (mkF m pc ls (.long y :: .long x :: st))) := by
  have w' := W_ifN (x := lcmpV x y) (st := st) B hd' hp (by have h : ¬ 0 < lcmpV x y := fun q => hc ((lc_gt x y).mp q); exact (flt h).2.2.1) w
  obtain ⟨hx, hZ, hlk, locs, X, N, H⟩ := B
  exact w'.step fun t k => XS.lcmp X.here hx rfl hd rfl (by show Steps p.tables e below (T.setTop (mkF m (pc + 1) ls (.int (lcmpW x y) :: st))) t; rw [lcW]; exact k)
theorem W_lcmp_gt (B : oB p l e R s m args below meth c Z h0 lo T cells slots ds) {x y : Int64} {o : Int} {pt : Nat} (hd : decode c.code pc = .ok (.lcmp, 1)) (hd' : decode c.code (pc + 1) = .ok (.ifCond .gt o, 3)) (ho : 0 ≤ ((pc + 1 : Nat) : Int) + o) (ht : (((pc + 1 : Nat) : Int) + o).toNat = pt) (hp : pc + 1 + 3 = pc') (w1 : y < x → oWin p e below Z h0 Q E (T.setTop (mkF m pt ls st))) (w2 : ¬ y < x → oWin p e below Z h0 Q E (T.setTop (mkF m pc' ls st))) : oWin p e below Z h0 Q E (T.setTop (mkF m pc ls (.long y :: .long x :: st))) := by
  by_cases h : y < x
  · exact W_lcmpY_gt B hd hd' ho ht h (w1 h)
  · exact W_lcmpN_gt B hd hd' hp h (w2 h)
theorem W_icmp_le (B : oB p l e R s m args below meth c Z h0 lo T cells slots ds) {x y : Int32} {o : Int} {pt : Nat} (hd : decode c.code pc = .ok (.if_icmp .le o, 3)) (ho : 0 ≤ (pc : Int) + o) (ht : ((pc : Int) + o).toNat = pt) (hp : pc + 3 = pc') (w1 : ¬ y < x → oWin p e below Z h0 Q E (T.setTop (mkF m pt ls st))) (w2 : y < x → oWin p e below Z h0 Q E (T.setTop (mkF m pc' ls st))) : oWin p e below Z h0 Q E (T.setTop (mkF m pc ls (.int y :: .int x :: st))) := by
  by_cases h : y < x
  · exact W_icmpN B hd hp (tlt h).2.2.2 (w2 h)
  · exact W_icmpY B hd ho ht (flt h).2.2.2 (w1 h)
theorem W_if_le (B : oB p l e R s m args below meth c Z h0 lo T cells slots ds) {x : Int32} {o : Int} {pt : Nat} (hd : decode c.code pc = .ok (.ifCond .le o, 3)) (ho : 0 ≤ (pc : Int) + o) (ht : ((pc : Int) + o).toNat = pt) (hp : pc + 3 = pc') (w1 : ¬ 0 < x → oWin p e below Z h0 Q E (T.setTop (mkF m pt ls st))) (w2 : 0 < x → oWin p e below Z h0 Q E (T.setTop (mkF m pc' ls st))) : oWin p e below Z h0 Q E (T.setTop (mkF m pc ls (.int x :: st))) := by
  by_cases h : 0 < x
  · exact W_ifN B hd hp (tlt h).2.2.2 (w2 h)
  · exact W_ifY B hd ho ht (flt h).2.2.2 (w1 h)
theorem W_lcmpY_le (B : oB p l e R s m args below meth c Z h0 lo T cells slots ds) {x y : Int64} {o : Int} (hd : decode c.code pc = .ok (.lcmp, 1)) (hd' : decode c.code (pc + 1) = .ok (.ifCond .le o, 3)) (ho : 0 ≤ ((pc + 1 : Nat) : Int) + o) (ht : (((pc + 1 : Nat) : Int) + o).toNat = pc') (hc : ¬ y < x) (w : oWin p e below Z h0 Q E (T.setTop (mkF m pc' ls st))) : oWin p e below Z h0 Q E (T.setTop (mkF m pc ls (.long y :: .long x :: st))) := by
  have w' := W_ifY (x := lcmpV x y) (st := st) B hd' ho ht (by have h : ¬ 0 < lcmpV x y := fun q => hc ((lc_gt x y).mp q); exact (flt h).2.2.2) w
  obtain ⟨hx, hZ, hlk, locs, X, N, H⟩ := B
  exact w'.step fun t k => XS.lcmp X.here hx rfl hd rfl (by show Steps p.tables e below (T.setTop (mkF m (pc + 1) ls (.int (lcmpW x y) :: st))) t; rw [lcW]; exact k)
theorem W_lcmpN_le (B : oB p l e R s m args below meth c Z h0 lo T cells slots ds) {x y : Int64} {o : Int} (hd : decode c.code pc = .ok (.lcmp, 1)) (hd' : decode c.code (pc + 1) = .ok (.ifCond .le o, 3)) (hp : pc + 1 + 3 = pc') (hc : y < x) (w : oWin p e below Z h0 Q E (T.setTop (mkF m pc' ls st))) : oWin p e below Z h0 Q E (T.setTop (mkF m pc ls (.long y :: .long x :: st))) := by
  have w' := W_ifN (x := lcmpV x y) (st := st) B hd' hp (by have h : 0 < lcmpV x y := (lc_gt x y).mpr hc; exact (tlt h).2.2.2) w
  obtain ⟨hx, hZ, hlk, locs, X, N, H⟩ := B
  exact w'.step fun t k => XS.lcmp X.here hx rfl hd rfl (by show Steps p.tables e below (T.setTop (mkF m (pc + 1) ls (.int (lcmpW x y) :: st))) t; rw [lcW]; exact k)
theorem W_lcmp_le (B : oB p l e R s m args below meth c Z h0 lo T cells slots ds) {x y : Int64} {o : Int} {pt : Nat} (hd : decode c.code pc = .ok (.lcmp, 1)) (hd' : decode c.code (pc + 1) = .ok (.ifCond .le o, 3)) (ho : 0 ≤ ((pc + 1 : Nat) : Int) + o) (ht : (((pc + 1 : Nat) : Int) + o).toNat = pt) (hp : pc + 1 + 3 = pc') (w1 : ¬ y < x → oWin p e below Z h0 Q E (T.setTop (mkF m pt ls st))) (w2 : y < x → oWin p e below Z h0 Q E (T.setTop (mkF m pc' ls st))) : oWin p e below Z h0 Q E (T.setTop (mkF m pc ls (.long y :: .long x :: st))) := by
  by_cases h : y < x
  · exact W_lcmpN_le B hd hd' hp h (w2 h)
  · exact W_lcmpY_le B hd hd' ho ht h (w1 h)
theorem W_ifnullY (B : oB p l e R s m args below meth c Z h0 lo T cells slots ds) {o : Int} (hd : decode c.code pc = .ok (.ifnull o, 3)) (ho : 0 ≤ (pc : Int) + o) (hp : ((pc : Int) + o).toNat = pc') (w : oWin p e below Z h0 Q E (T.setTop (mkF m pc' ls st))) : oWin p e below Z h0 Q E (T.setTop (mkF m pc ls (.null :: st))) := by
  obtain ⟨hx, hZ, hlk, locs, X, N, H⟩ := B
  exact w.step fun t k => XS.ifnullYes X.here hx rfl rfl hd rfl ho hp k
theorem W_ifnullN (B : oB p l e R s m args below meth c Z h0 lo T cells slots ds) {o : Int} {a : Addr} (hd : decode c.code pc = .ok (.ifnull o, 3)) (hp : pc + 3 = pc') (w : oWin p e below Z h0 Q E (T.setTop (mkF m pc' ls st))) : oWin p e below Z h0 Q E (T.setTop (mkF m pc ls (.ref a :: st))) := by
  subst hp
  obtain ⟨hx, hZ, hlk, locs, X, N, H⟩ := B
  exact w.step fun t k => XS.ifnullNo X.here hx rfl hd rfl k
theorem W_ifnonnullY (B : oB p l e R s m args below meth c Z h0 lo T cells slots ds) {o : Int} {a : Addr} (hd : decode c.code pc = .ok (.ifnonnull o, 3)) (ho : 0 ≤ (pc : Int) + o) (hp : ((pc : Int) + o).toNat = pc') (w : oWin p e below Z h0 Q E (T.setTop (mkF m pc' ls st))) : oWin p e below Z h0 Q E (T.setTop (mkF m pc ls (.ref a :: st))) := by
  obtain ⟨hx, hZ, hlk, locs, X, N, H⟩ := B
  exact w.step fun t k => XS.ifnonnullYes X.here hx rfl rfl hd rfl ho hp k
theorem W_ifnonnullN (B : oB p l e R s m args below meth c Z h0 lo T cells slots ds) {o : Int} (hd : decode c.code pc = .ok (.ifnonnull o, 3)) (hp : pc + 3 = pc') (w : oWin p e below Z h0 Q E (T.setTop (mkF m pc' ls st))) : oWin p e below Z h0 Q E (T.setTop (mkF m pc ls (.null :: st))) := by
  subst hp
  obtain ⟨hx, hZ, hlk, locs, X, N, H⟩ := B
  exact w.step fun t k => XS.ifnonnullNo X.here hx rfl hd rfl k
theorem W_acmp (B : oB p l e R s m args below meth c Z h0 lo T cells slots ds) {cd : ACond} {o : Int} {x y : Value} {same : Bool} (hd : decode c.code pc = .ok (.if_acmp cd o, 3)) (h1 : x.isRef = true) (h2 : y.isRef = true) (hq : decide (x = y) = same) (ho : 0 ≤ (pc : Int) + o) (hp : pc' = if acV cd same = true then ((pc : Int) + o).toNat else pc + 3) (w : oWin p e below Z h0 Q E (T.setTop (mkF m pc' ls st))) : oWin p e below Z h0 Q E (T.setTop (mkF m pc ls (y :: x :: st))) := by
  obtain ⟨hx, hZ, hlk, locs, X, N, H⟩ := B
  exact w.step fun t k => Jvm.RoadKit.acmp (g := mkF m pc ls (y :: x :: st)) X hx rfl h1 h2 rfl hd rfl hq ho hp k
theorem W_ldcInt (B : oB p l e R s m args below meth c Z h0 lo T cells slots ds) {own : String} {i : Nat} {v : Int32} (hown : s.vm.findClass own = some m.cls) (w : (Jvm.Cond.constant own i v).before a0 Z = true) (hd : decode c.code pc = .ok (.ldc i, 2)) (hp : pc + 2 = pc') (k : oWin p e below Z h0 Q E (T.setTop (mkF m pc' ls (.int v :: st)))) : oWin p e below Z h0 Q E (T.setTop (mkF m pc ls st)) := by
  subst hp
  obtain ⟨hx, hZ, hlk, locs, X, N, H⟩ := B
  exact k.step (X.ldcInt hx hown (mvT hZ w) (g := mkF m pc ls st) rfl hd)
theorem W_ldc2Long (B : oB p l e R s m args below meth c Z h0 lo T cells slots ds) {own : String} {i : Nat} {v : Int64} (hown : s.vm.findClass own = some m.cls) (w : (Jvm.Cond.constantLong own i v).before a0 Z = true) (hd : decode c.code pc = .ok (.ldc2_w i, 3)) (hp : pc + 3 = pc') (k : oWin p e below Z h0 Q E (T.setTop (mkF m pc' ls (.long v :: st)))) : oWin p e below Z h0 Q E (T.setTop (mkF m pc ls st)) := by
  subst hp
  obtain ⟨hx, hZ, hlk, locs, X, N, H⟩ := B
  exact k.step (X.ldc2Long hx hown (mvT hZ w) (g := mkF m pc ls st) rfl hd)
theorem W_getstatic (B : oB p l e R s m args below meth c Z h0 lo T cells slots ds) {own R0 O n d host : String} {i : Nat} {v : Value} (hown : s.vm.findClass own = some m.cls) (w : (Jvm.Cond.fieldLink own i R0 n d).before a0 Z = true ∨ (Jvm.Cond.fieldLinkNest own i R0 n d host).before a0 Z = true) (via : Via Z R0 O n d) (F : Sta Z h0 O n d v) (hd : decode c.code pc = .ok (.getstatic i, 3)) (hp : pc + 3 = pc')
    (k : ∀ T, oB p l e R s m args below meth c Z h0 lo T cells slots ds → oWin p e below Z h0 Q E (T.setTop (mkF m pc' ls (v :: st)))) : oWin p e below Z h0 Q E (T.setTop (mkF m pc ls st)) := by
  subst hp
  obtain ⟨hx, hZ, hlk, locs, X, N, H⟩ := B
  obtain ⟨T', X', e', stp⟩ := getS2 X hx hZ hown w via rfl (F.ext H.1.1) (g := mkF m pc ls st) rfl hd
  exact (k T' ⟨hx, hZ, hlk, locs, X', N, e' ▸ H⟩).step stp
theorem W_getfield (B : oB p l e R s m args below meth c Z h0 lo T cells slots ds) {own R0 O n d host : String} {i j q : Nat} {a : Addr} {C : String} {fs : List (oFK × Value)} {v : Value} (hown : s.vm.findClass own = some m.cls) (w : (Jvm.Cond.fieldLink own i R0 n d).before a0 Z = true ∨ (Jvm.Cond.fieldLinkNest own i R0 n d host).before a0 Z = true) (via : Via Z R0 O n d) (hd : decode c.code pc = .ok (.getfield i, 3)) (hp : pc + 3 = pc')
    (hi : ds[j]? = some (a, oO C fs)) (hf : fs[q]? = some ((O, n, d), v))
    (k : ∀ T, oB p l e R s m args below meth c Z h0 lo T cells slots ds → oWin p e below Z h0 Q E (T.setTop (mkF m pc' ls (v :: st)))) : oWin p e below Z h0 Q E (T.setTop (mkF m pc ls (.ref a :: st))) := by
  subst hp
  obtain ⟨hx, hZ, hlk, locs, X, N, H⟩ := B
  have F := (H.at hi).2.2.1 _ (List.mem_of_getElem? hf)
  obtain ⟨T', X', e', stp⟩ := getF X hx hZ hown w via rfl F (g := mkF m pc ls (.ref a :: st)) rfl rfl hd
  exact (k T' ⟨hx, hZ, hlk, locs, X', N, e' ▸ H⟩).step stp
theorem oIs.put {h h' : Heap} {a : Addr} {C : String} {fs : List (oFK × Value)} {q : Nat} {f : oFK} {old v : Value} (I : oIs Z h a (oO C fs)) (hf : fs[q]? = some (f, old)) (W : Wr h h' a (oSl Z f) v) : oIs Z h' a (oO C (fs.set q (f, v))) := by
  obtain ⟨E, F, P⟩ := I
  have hq : q < fs.length := (List.getElem?_eq_some_iff.mp hf).1
  refine ⟨E.wr W, fun g hg => ?_, ?_⟩
  · obtain ⟨j, hj⟩ := List.mem_iff_getElem?.mp hg
    rw [List.getElem?_set] at hj
    by_cases e : q = j
    · rw [if_pos e, if_pos hq] at hj
      cases hj
      exact Fld.same (Z := Z) (C := f.1) (n := f.2.1) (d := f.2.2) W (F _ (List.mem_of_getElem? hf))
    · rw [if_neg e] at hj
      refine (F g (List.mem_of_getElem? hj)).other W (Or.inr ?_)
      obtain ⟨lj, ej⟩ := List.getElem?_eq_some_iff.mp hj
      obtain ⟨lq, eq⟩ := List.getElem?_eq_some_iff.mp hf
      have P' := List.pairwise_iff_getElem.mp P
      rcases Nat.lt_or_gt_of_ne e with r | r
      · have := P' q j lq lj r
        rw [ej, eq] at this; exact fun z => this z.symm
      · have := P' j q lj lq r
        rw [ej, eq] at this; exact this
  · refine List.pairwise_iff_getElem.mpr fun i j li lj r => ?_
    rw [List.length_set] at li lj
    have P' := List.pairwise_iff_getElem.mp P i j li lj r
    have key : ∀ k (lk : k < fs.length) (lk' : k < (fs.set q (f, v)).length), ((fs.set q (f, v))[k]'lk').1 = (fs[k]).1 := fun k lk lk' => by
      rw [List.getElem_set]
      split
      · rename_i hk; subst hk; obtain ⟨_, eq⟩ := List.getElem?_eq_some_iff.mp hf; rw [eq]
      · rfl
    rw [key i li, key j lj]; exact P'
theorem W_putfield (B : oB p l e R s m args below meth c Z h0 lo T cells slots ds) {own R0 O n d host : String} {i j q kk : Nat} {a : Addr} {C : String} {fs : List (oFK × Value)} {old v : Value} {ty : FieldType} (hown : s.vm.findClass own = some m.cls) (w : (Jvm.Cond.fieldLink own i R0 n d).before a0 Z = true ∨ (Jvm.Cond.fieldLinkNest own i R0 n d host).before a0 Z = true) (via : Via Z R0 O n d) (hd : decode c.code pc = .ok (.putfield i, 3)) (hp : pc + 3 = pc')
    (L : (Jvm.Cond.lays C O n d).before a0 Z = true ∨ ((Jvm.Cond.laysFinal C O n d).before a0 Z = true ∧ own = O ∧ meth.name = "<init>")) (wi : (Jvm.Cond.instantiable C kk).before a0 Z = true) (hty : parseFieldDescriptor d = some ty) (hn : narrow ty v = v) (hft : fits ty v = true)
    (hi : ds[j]? = some (a, oO C fs)) (hf : fs[q]? = some ((O, n, d), old)) (hds : ds.set j (a, oO C (fs.set q ((O, n, d), v))) = ds')
    (k : ∀ T, oB p l e R s m args below meth c Z h0 lo T cells slots ds' → oWin p e below Z h0 Q E (T.setTop (mkF m pc' ls st))) : oWin p e below Z h0 Q E (T.setTop (mkF m pc ls (v :: .ref a :: st))) := by
  subst hp hds
  obtain ⟨hx, hZ, hlk, locs, X, N, H⟩ := B
  obtain ⟨ha, I⟩ := H.at hi
  obtain ⟨T', h', X', e', W, stp⟩ := putF X hx hZ hown w via rfl (I.2.1 _ (List.mem_of_getElem? hf)) I.1 L wi hty hn hft (g := mkF m pc ls (v :: .ref a :: st)) rfl rfl hd
  subst e'
  exact (k T' ⟨hx, hZ, hlk, _, X', Fr.snoc X' N ha, H.wr hi W (I.put hf W)⟩).step stp
def oLaid (Z : State) (a0 : Array Value) (C : String) (f : oFK × Value) : Prop := Laid Z a0 C f.1.1 f.1.2.1 f.1.2.2 ∧ ∃ ty, parseFieldDescriptor f.1.2.2 = some ty ∧ f.2 = defaultValue ty
theorem oAll_nil {P : oFK × Value → Prop} : ∀ f ∈ ([] : List (oFK × Value)), P f := fun _ h => nomatch h
theorem oAll_cons {P : oFK × Value → Prop} {f : oFK × Value} {fs : List (oFK × Value)} (h : P f) (h' : ∀ g ∈ fs, P g) : ∀ g ∈ f :: fs, P g := fun g hg => (List.mem_cons.mp hg).elim (fun e => e ▸ h) (h' g)
theorem W_new (B : oB p l e R s m args below meth c Z h0 lo T cells slots ds) {own C : String} {i n : Nat} {fs : List (oFK × Value)} (hown : s.vm.findClass own = some m.cls) (w : (Jvm.Cond.classLink own i C).before a0 Z = true) (wi : (Jvm.Cond.instantiable C n).before a0 Z = true) (wz : (Jvm.Cond.initialized C).before a0 Z = true) (hd : decode c.code pc = .ok (.new i, 3)) (hp : pc + 3 = pc')
    (hr : cells + 1 ≤ R.cells ∧ slots + n ≤ R.slots) {cells' slots' : Nat} (hc' : cells + 1 = cells') (hs' : slots + n = slots')
    (hfs : ∀ f ∈ fs, oLaid Z a0 C f) (hnd : (fs.map fun f => f.1.2.1).Nodup)
    (k : ∀ T a, oB p l e R s m args below meth c Z h0 lo T cells' slots' ((a, oO C fs) :: ds) → oWin p e below Z h0 Q E (T.setTop (mkF m pc' ls (.ref a :: st)))) : oWin p e below Z h0 Q E (T.setTop (mkF m pc ls st)) := by
  subst hp hc' hs'
  obtain ⟨hx, hZ, hlk, locs, X, N, H⟩ := B
  obtain ⟨T', h', X', e', E, A, D, -, stp⟩ := newO X hx hZ hown w wi wz rfl (g := mkF m pc ls st) rfl hd hr.1 hr.2
  subst e'
  refine (k T' T.heap.size ⟨hx, hZ, hlk, _, X', N, H.new E ⟨A, fun f hf => ?_, ?_⟩⟩).step stp
  · obtain ⟨L, ty, h1, h2⟩ := hfs f hf
    rw [h2]; exact D L h1
  · have P := List.pairwise_map.mp (List.nodup_iff_pairwise_ne.mp hnd)
    refine P.imp_of_mem fun {f g} hf hg ne => ?_
    obtain ⟨L, ty, h1, h2⟩ := hfs f hf
    obtain ⟨L', ty', h1', h2'⟩ := hfs g hg
    exact Jvm.RoadKit.slot_ne L L' ne h1 h1'
theorem W_newarray (B : oB p l e R s m args below meth c Z h0 lo T cells slots ds) {aty : ArrayType} {n : Int32} {cap : Nat} {vs : List Value} (w : (Jvm.Cond.arrayClass (newarray.typeOf aty)).before a0 Z = true) (hd : decode c.code pc = .ok (.newarray aty, 2)) (hp : pc + 2 = pc') (hn : ¬ n < 0) (hcap : n.toNatClampNeg ≤ cap)
    (hr : cap * 8 ≤ 536870912 ∧ cells + 1 ≤ R.cells ∧ slots + cap ≤ R.slots) {cells' slots' : Nat} (hc' : cells + 1 = cells') (hs' : slots + cap = slots') (hvs : List.replicate n.toNatClampNeg (defaultValue (newarray.typeOf aty)) = vs) {ty : FieldType} (hty : newarray.typeOf aty = ty)
    (k : ∀ T a, oB p l e R s m args below meth c Z h0 lo T cells' slots' ((a, oA ty vs) :: ds) → oWin p e below Z h0 Q E (T.setTop (mkF m pc' ls (.ref a :: st)))) : oWin p e below Z h0 Q E (T.setTop (mkF m pc ls (.int n :: st))) := by
  subst hp hc' hs' hvs hty
  obtain ⟨hx, hZ, hlk, locs, X, N, H⟩ := B
  obtain ⟨T', h', cA, X', e', E, A, EA, stp⟩ := newPE X hx hZ w rfl (g := mkF m pc ls (.int n :: st)) rfl hd rfl hn hcap hr.1 hr.2.1 hr.2.2 rfl
  subst e'
  exact (k T' T.heap.size ⟨hx, hZ, hlk, _, X', N, H.new E ⟨_, A, by simp [newA], (fun C hC => by cases aty <;> cases hC), EA, fun v hv => by rw [(List.mem_replicate.mp hv).2]; cases aty <;> rfl⟩⟩).step stp
theorem W_anewarray (B : oB p l e R s m args below meth c Z h0 lo T cells slots ds) {own C : String} {i : Nat} {n : Int32} {cap : Nat} {vs : List Value} (hown : s.vm.findClass own = some m.cls) (w : (Jvm.Cond.classLink own i C).before a0 Z = true) (w2 : (Jvm.Cond.arrayOver (.object C)).before a0 Z = true) (hd : decode c.code pc = .ok (.anewarray i, 3)) (hp : pc + 3 = pc') (hn : ¬ n < 0) (hcap : n.toNatClampNeg ≤ cap)
    (hr : cap * 8 ≤ 536870912 ∧ cells + 1 ≤ R.cells ∧ slots + cap ≤ R.slots) {cells' slots' : Nat} (hc' : cells + 1 = cells') (hs' : slots + cap = slots') (hvs : List.replicate n.toNatClampNeg Value.null = vs)
    (k : ∀ T a, oB p l e R s m args below meth c Z h0 lo T cells' slots' ((a, oA (.object C) vs) :: ds) → oWin p e below Z h0 Q E (T.setTop (mkF m pc' ls (.ref a :: st)))) : oWin p e below Z h0 Q E (T.setTop (mkF m pc ls (.int n :: st))) := by
  subst hp hc' hs' hvs
  obtain ⟨hx, hZ, hlk, locs, X, N, H⟩ := B
  obtain ⟨T', h', cA, X', e', E, A, EA, O, stp⟩ := newRE X hx hZ hown w w2 rfl (g := mkF m pc ls (.int n :: st)) rfl hd rfl hn hcap hr.1 hr.2.1 hr.2.2 rfl
  subst e'
  exact (k T' T.heap.size ⟨hx, hZ, hlk, _, X', N, H.new E ⟨_, A, by simp [newA, defaultValue], (fun C' hC => by cases hC; exact O), EA, fun v hv => by rw [(List.mem_replicate.mp hv).2]; rfl⟩⟩).step stp
theorem W_arraylength (B : oB p l e R s m args below meth c Z h0 lo T cells slots ds) {j : Nat} {a : Addr} {ty : FieldType} {vs : List Value} {z : Int32} (hd : decode c.code pc = .ok (.arraylength, 1)) (hp : pc + 1 = pc') (hi : ds[j]? = some (a, oA ty vs)) (hz : vs.length.toInt32 = z) (w : oWin p e below Z h0 Q E (T.setTop (mkF m pc' ls (.int z :: st)))) : oWin p e below Z h0 Q E (T.setTop (mkF m pc ls (.ref a :: st))) := by
  subst hp hz
  obtain ⟨hx, hZ, hlk, locs, X, N, H⟩ := B
  obtain ⟨-, c', A, e, -⟩ := H.at hi
  have e2 : c'.slots.size = vs.length := by rw [e]; simp
  refine w.step fun t k => X.arraylength hx A.1 (State.isArrayOf_alike hZ.alike A.2.1) (g := mkF m pc ls (.ref a :: st)) rfl rfl hd t ?_
  rw [e2]; exact k
theorem oIn {vs : List Value} {j : Int32} {v : Value} {c' : Cell} (e : c'.slots = vs.toArray) (hj : ¬ j < 0) (hv : vs[j.toNatClampNeg]? = some v) : ¬ (j < 0 ∨ c'.slots.size ≤ j.toNatClampNeg) ∧ c'.slots[j.toNatClampNeg]? = some v := by
  have h1 : j.toNatClampNeg < vs.length := (List.getElem?_eq_some_iff.mp hv).1
  refine ⟨fun q => ?_, by rw [e]; simpa using hv⟩
  rcases q with q | q
  · exact hj q
  · rw [e] at q; simp at q; omega
theorem oIs.store {h h' : Heap} {a : Addr} {ty : FieldType} {vs : List Value} {i : Nat} {v : Value} (I : oIs Z h a (oA ty vs)) (W : Wr h h' a i v) (hv : fits ty v = true) : oIs Z h' a (oA ty (vs.set i v)) := by
  obtain ⟨c', A, e, O, E, F⟩ := I
  refine ⟨_, A.same W, ?_, O, E.wr W, fun w hw => ?_⟩
  · show c'.slots.setIfInBounds i v = _
    rw [e]; simp
  · rcases List.mem_or_eq_of_mem_set hw with q | q
    · exact F w q
    · rw [q]; exact hv
theorem W_clone (B : oB p l e R s m args below meth c Z h0 lo T cells slots ds) {own ad : String} {i j : Nat} {a : Addr} {ty : FieldType} {vs : List Value} {cap W : Nat} (hown : s.vm.findClass own = some m.cls) (w1 : (Jvm.Cond.methodLink own i ⟨ad, "clone", "()Ljava/lang/Object;"⟩).before a0 Z = true) (w2 : (Jvm.Cond.sameMethod ad "java/lang/Object" "clone" "()Ljava/lang/Object;").before a0 Z = true) (w3 : (Jvm.Cond.native ⟨"java/lang/Object", "clone", "()Ljava/lang/Object;"⟩).before a0 Z = true)
    (w4 : (Jvm.Cond.instanceMethod ⟨"java/lang/Object", "clone", "()Ljava/lang/Object;"⟩).before a0 Z = true) (w5 : (Jvm.Cond.selects ad ⟨ad, "clone", "()Ljava/lang/Object;"⟩ ⟨"java/lang/Object", "clone", "()Ljava/lang/Object;"⟩).before a0 Z = true) (w6 : (Jvm.Cond.castable ad "java/lang/Cloneable").before a0 Z = true)
    (had : "[" ++ ty.toString = ad) (hi : ds[j]? = some (a, oA ty vs)) (hd : decode c.code pc = .ok (.invokevirtual i, 3)) (hp : pc + 3 = pc') (hsz : ls.size = c.maxLocals) (hW : (st.map fun v => v.category).sum ≤ W) (hcap : vs.length ≤ cap) (hr : 1 ≤ R.frames ∧ W + 14 ≤ R.locals ∧ cells + 1 ≤ R.cells ∧ slots + cap ≤ R.slots) {cells' slots' : Nat} (hc' : cells + 1 = cells') (hs' : slots + cap = slots')
    (k : ∀ T b, oB p l e R s m args below meth c Z h0 lo T cells' slots' ((b, oA ty vs) :: ds) → oWin p e below Z h0 Q E (T.setTop (mkF m pc' ls (.ref b :: st)))) : oWin p e below Z h0 Q E (T.setTop (mkF m pc ls (.ref a :: st))) := by
  subst hp hc' hs' had
  obtain ⟨hx, hZ, hlk, locs, X, N, H⟩ := B
  obtain ⟨-, c', A, e1, O, E, F⟩ := H.at hi
  have FC : FitC Z c' := fitC_of A fun i hi v hv => F v (by rw [e1] at hv; simpa using List.mem_of_getElem? (l := vs) (by simpa using hv))
  obtain ⟨T', h', X', e', ex, A', E', stp⟩ := cloneA X hx hZ hown w1 w2 w3 w4 w5 w6 rfl A E FC (g := mkF m pc ls (.ref a :: st)) rfl hsz rfl hd hr.1 (W := W) (cap := cap) (by simpa using hW) hr.2.1 (by rw [e1]; simpa using hcap) hr.2.2.1 hr.2.2.2
  subst e'
  exact (k T' T.heap.size ⟨hx, hZ, hlk, _, X', N, H.new ex ⟨_, A', e1, O, E', F⟩⟩).step stp
theorem W_castArr (B : oB p l e R s m args below meth c Z h0 lo T cells slots ds) {own ad : String} {i j : Nat} {a : Addr} {ty : FieldType} {vs : List Value} (hown : s.vm.findClass own = some m.cls) (w : (Jvm.Cond.classLink own i ad).before a0 Z = true) (had : "[" ++ ty.toString = ad) (hi : ds[j]? = some (a, oA ty vs)) (hd : decode c.code pc = .ok (.checkcast i, 3)) (hp : pc + 3 = pc')
    (k : ∀ T, oB p l e R s m args below meth c Z h0 lo T cells slots ds → oWin p e below Z h0 Q E (T.setTop (mkF m pc' ls (.ref a :: st)))) : oWin p e below Z h0 Q E (T.setTop (mkF m pc ls (.ref a :: st))) := by
  subst hp had
  obtain ⟨hx, hZ, hlk, locs, X, N, H⟩ := B
  obtain ⟨-, c', A, e1, O, E, F⟩ := H.at hi
  obtain ⟨T', X', e', stp⟩ := castY X hx hZ hown w rfl (Ins.self E) (g := mkF m pc ls (.ref a :: st)) rfl rfl hd
  exact (k T' ⟨hx, hZ, hlk, locs, X', N, e' ▸ H⟩).step stp
theorem W_iaload (B : oB p l e R s m args below meth c Z h0 lo T cells slots ds) {i : Nat} {a : Addr} {vs : List Value} {j : Int32} {v : Value} (hd : decode c.code pc = .ok (.iaload, 1)) (hp : pc + 1 = pc') (hi : ds[i]? = some (a, oA .int vs)) (hj : ¬ j < 0) (hv : vs[j.toNatClampNeg]? = some v) (w : oWin p e below Z h0 Q E (T.setTop (mkF m pc' ls (v :: st)))) : oWin p e below Z h0 Q E (T.setTop (mkF m pc ls (.int j :: .ref a :: st))) := by
  subst hp
  obtain ⟨hx, hZ, hlk, locs, X, N, H⟩ := B
  obtain ⟨-, c', A, e, -⟩ := H.at hi
  obtain ⟨q1, q2⟩ := oIn e hj hv
  exact w.step fun t k => X.iaload hx A.1 (State.isArrayOf_alike hZ.alike A.2.1) A.2.2 q1 q2 (g := mkF m pc ls (.int j :: .ref a :: st)) rfl rfl hd t k
theorem W_laload (B : oB p l e R s m args below meth c Z h0 lo T cells slots ds) {i : Nat} {a : Addr} {vs : List Value} {j : Int32} {v : Value} (hd : decode c.code pc = .ok (.laload, 1)) (hp : pc + 1 = pc') (hi : ds[i]? = some (a, oA .long vs)) (hj : ¬ j < 0) (hv : vs[j.toNatClampNeg]? = some v) (w : oWin p e below Z h0 Q E (T.setTop (mkF m pc' ls (v :: st)))) : oWin p e below Z h0 Q E (T.setTop (mkF m pc ls (.int j :: .ref a :: st))) := by
  subst hp
  obtain ⟨hx, hZ, hlk, locs, X, N, H⟩ := B
  obtain ⟨-, c', A, e, -⟩ := H.at hi
  obtain ⟨q1, q2⟩ := oIn e hj hv
  exact w.step fun t k => X.laload hx A.1 (State.isArrayOf_alike hZ.alike A.2.1) A.2.2 q1 q2 (g := mkF m pc ls (.int j :: .ref a :: st)) rfl rfl hd t k
theorem W_baload (B : oB p l e R s m args below meth c Z h0 lo T cells slots ds) {i : Nat} {a : Addr} {vs : List Value} {j : Int32} {v : Value} (hd : decode c.code pc = .ok (.baload, 1)) (hp : pc + 1 = pc') (hi : ds[i]? = some (a, oA .byte vs)) (hj : ¬ j < 0) (hv : vs[j.toNatClampNeg]? = some v) (w : oWin p e below Z h0 Q E (T.setTop (mkF m pc' ls (v :: st)))) : oWin p e below Z h0 Q E (T.setTop (mkF m pc ls (.int j :: .ref a :: st))) := by
  subst hp
  obtain ⟨hx, hZ, hlk, locs, X, N, H⟩ := B
  obtain ⟨-, c', A, e, -⟩ := H.at hi
  obtain ⟨q1, q2⟩ := oIn e hj hv
  exact w.step fun t k => X.baloadBytes hx A.1 (State.isArrayOf_alike hZ.alike A.2.1) A.2.2 q1 q2 (g := mkF m pc ls (.int j :: .ref a :: st)) rfl rfl hd t k
theorem W_caload (B : oB p l e R s m args below meth c Z h0 lo T cells slots ds) {i : Nat} {a : Addr} {vs : List Value} {j : Int32} {v : Value} (hd : decode c.code pc = .ok (.caload, 1)) (hp : pc + 1 = pc') (hi : ds[i]? = some (a, oA .char vs)) (hj : ¬ j < 0) (hv : vs[j.toNatClampNeg]? = some v) (w : oWin p e below Z h0 Q E (T.setTop (mkF m pc' ls (v :: st)))) : oWin p e below Z h0 Q E (T.setTop (mkF m pc ls (.int j :: .ref a :: st))) := by
  subst hp
  obtain ⟨hx, hZ, hlk, locs, X, N, H⟩ := B
  obtain ⟨-, c', A, e, -⟩ := H.at hi
  obtain ⟨q1, q2⟩ := oIn e hj hv
  exact w.step fun t k => X.caload hx A.1 (State.isArrayOf_alike hZ.alike A.2.1) A.2.2 q1 q2 (g := mkF m pc ls (.int j :: .ref a :: st)) rfl rfl hd t k
theorem W_aaload (B : oB p l e R s m args below meth c Z h0 lo T cells slots ds) {i : Nat} {a : Addr} {ty : FieldType} {vs : List Value} {j : Int32} {v : Value} (hd : decode c.code pc = .ok (.aaload, 1)) (hp : pc + 1 = pc') (hi : ds[i]? = some (a, oA ty vs)) (hty : ty.isReference = true) (hj : ¬ j < 0) (hv : vs[j.toNatClampNeg]? = some v) (w : oWin p e below Z h0 Q E (T.setTop (mkF m pc' ls (v :: st)))) : oWin p e below Z h0 Q E (T.setTop (mkF m pc ls (.int j :: .ref a :: st))) := by
  subst hp
  obtain ⟨hx, hZ, hlk, locs, X, N, H⟩ := B
  obtain ⟨-, c', A, e, -⟩ := H.at hi
  obtain ⟨q1, q2⟩ := oIn e hj hv
  exact w.step fun t k => X.aaload hx A.1 (State.isArrayOf_alike hZ.alike A.2.1) hty A.2.2 q1 q2 (g := mkF m pc ls (.int j :: .ref a :: st)) rfl rfl hd t k
theorem W_iastore (B : oB p l e R s m args below meth c Z h0 lo T cells slots ds) {i : Nat} {a : Addr} {vs : List Value} {j : Int32} {x : Int32} (hd : decode c.code pc = .ok (.iastore, 1)) (hp : pc + 1 = pc') (hi : ds[i]? = some (a, oA .int vs)) (hj : ¬ j < 0) (hv : j.toNatClampNeg < vs.length) (hds : ds.set i (a, oA .int (vs.set j.toNatClampNeg (.int x))) = ds') (k : ∀ T, oB p l e R s m args below meth c Z h0 lo T cells slots ds' → oWin p e below Z h0 Q E (T.setTop (mkF m pc' ls st))) : oWin p e below Z h0 Q E (T.setTop (mkF m pc ls (.int x :: .int j :: .ref a :: st))) := by
  subst hp hds
  obtain ⟨hx, hZ, hlk, locs, X, N, H⟩ := B
  obtain ⟨ha, I⟩ := H.at hi
  have I' := I
  obtain ⟨c', A, e, -⟩ := I'
  obtain ⟨q1, -⟩ := oIn e hj (List.getElem?_eq_getElem hv)
  obtain ⟨T', h', X', e', W, stp⟩ := stI X hx hZ rfl A q1 (g := mkF m pc ls (.int x :: .int j :: .ref a :: st)) rfl rfl hd
  subst e'
  exact (k T' ⟨hx, hZ, hlk, _, X', Fr.snoc X' N ha, H.wr hi W (I.store W rfl)⟩).step stp
theorem W_lastore (B : oB p l e R s m args below meth c Z h0 lo T cells slots ds) {i : Nat} {a : Addr} {vs : List Value} {j : Int32} {x : Int64} (hd : decode c.code pc = .ok (.lastore, 1)) (hp : pc + 1 = pc') (hi : ds[i]? = some (a, oA .long vs)) (hj : ¬ j < 0) (hv : j.toNatClampNeg < vs.length) (hds : ds.set i (a, oA .long (vs.set j.toNatClampNeg (.long x))) = ds') (k : ∀ T, oB p l e R s m args below meth c Z h0 lo T cells slots ds' → oWin p e below Z h0 Q E (T.setTop (mkF m pc' ls st))) : oWin p e below Z h0 Q E (T.setTop (mkF m pc ls (.long x :: .int j :: .ref a :: st))) := by
  subst hp hds
  obtain ⟨hx, hZ, hlk, locs, X, N, H⟩ := B
  obtain ⟨ha, I⟩ := H.at hi
  have I' := I
  obtain ⟨c', A, e, -⟩ := I'
  obtain ⟨q1, -⟩ := oIn e hj (List.getElem?_eq_getElem hv)
  obtain ⟨T', h', X', e', W, stp⟩ := stJ X hx hZ rfl A q1 (g := mkF m pc ls (.long x :: .int j :: .ref a :: st)) rfl rfl hd
  subst e'
  exact (k T' ⟨hx, hZ, hlk, _, X', Fr.snoc X' N ha, H.wr hi W (I.store W rfl)⟩).step stp
theorem W_bastore (B : oB p l e R s m args below meth c Z h0 lo T cells slots ds) {i : Nat} {a : Addr} {vs : List Value} {j : Int32} {x : Int32} (hd : decode c.code pc = .ok (.bastore, 1)) (hp : pc + 1 = pc') (hi : ds[i]? = some (a, oA .byte vs)) (hj : ¬ j < 0) (hv : j.toNatClampNeg < vs.length) (hds : ds.set i (a, oA .byte (vs.set j.toNatClampNeg (.int (nar .byte x)))) = ds') (k : ∀ T, oB p l e R s m args below meth c Z h0 lo T cells slots ds' → oWin p e below Z h0 Q E (T.setTop (mkF m pc' ls st))) : oWin p e below Z h0 Q E (T.setTop (mkF m pc ls (.int x :: .int j :: .ref a :: st))) := by
  subst hp hds
  obtain ⟨hx, hZ, hlk, locs, X, N, H⟩ := B
  obtain ⟨ha, I⟩ := H.at hi
  have I' := I
  obtain ⟨c', A, e, -⟩ := I'
  obtain ⟨q1, -⟩ := oIn e hj (List.getElem?_eq_getElem hv)
  obtain ⟨T', h', X', e', W, stp⟩ := stB X hx hZ rfl A q1 (g := mkF m pc ls (.int x :: .int j :: .ref a :: st)) rfl rfl hd
  subst e'
  exact (k T' ⟨hx, hZ, hlk, _, X', Fr.snoc X' N ha, H.wr hi W (I.store W (fits_nar_byte x))⟩).step stp
theorem W_castore (B : oB p l e R s m args below meth c Z h0 lo T cells slots ds) {i : Nat} {a : Addr} {vs : List Value} {j : Int32} {x : Int32} (hd : decode c.code pc = .ok (.castore, 1)) (hp : pc + 1 = pc') (hi : ds[i]? = some (a, oA .char vs)) (hj : ¬ j < 0) (hv : j.toNatClampNeg < vs.length) (hds : ds.set i (a, oA .char (vs.set j.toNatClampNeg (.int (nar .char x)))) = ds') (k : ∀ T, oB p l e R s m args below meth c Z h0 lo T cells slots ds' → oWin p e below Z h0 Q E (T.setTop (mkF m pc' ls st))) : oWin p e below Z h0 Q E (T.setTop (mkF m pc ls (.int x :: .int j :: .ref a :: st))) := by
  subst hp hds
  obtain ⟨hx, hZ, hlk, locs, X, N, H⟩ := B
  obtain ⟨ha, I⟩ := H.at hi
  have I' := I
  obtain ⟨c', A, e, -⟩ := I'
  obtain ⟨q1, -⟩ := oIn e hj (List.getElem?_eq_getElem hv)
  obtain ⟨T', h', X', e', W, stp⟩ := stC X hx hZ rfl A q1 (g := mkF m pc ls (.int x :: .int j :: .ref a :: st)) rfl rfl hd
  subst e'
  exact (k T' ⟨hx, hZ, hlk, _, X', Fr.snoc X' N ha, H.wr hi W (I.store W (fits_nar_char x))⟩).step stp
theorem W_aastore (B : oB p l e R s m args below meth c Z h0 lo T cells slots ds) {i i2 : Nat} {a b : Addr} {C C2 : String} {fs : List (oFK × Value)} {vs : List Value} {j : Int32} (hd : decode c.code pc = .ok (.aastore, 1)) (hp : pc + 1 = pc') (hi : ds[i]? = some (a, oA (.object C) vs)) (hj : ¬ j < 0) (hv : j.toNatClampNeg < vs.length) (hb : ds[i2]? = some (b, oO C2 fs)) (hins : C2 = C ∨ (Jvm.Cond.castable C2 C).before a0 Z = true) (hds : ds.set i (a, oA (.object C) (vs.set j.toNatClampNeg (.ref b))) = ds') (k : ∀ T, oB p l e R s m args below meth c Z h0 lo T cells slots ds' → oWin p e below Z h0 Q E (T.setTop (mkF m pc' ls st))) : oWin p e below Z h0 Q E (T.setTop (mkF m pc ls (.ref b :: .int j :: .ref a :: st))) := by
  subst hp hds
  obtain ⟨hx, hZ, hlk, locs, X, N, H⟩ := B
  obtain ⟨ha, I⟩ := H.at hi
  have I' := I
  obtain ⟨c', A, e, O, -⟩ := I'
  obtain ⟨q1, -⟩ := oIn e hj (List.getElem?_eq_getElem hv)
  have E2 := (H.at hb).2.1
  have J : Ins Z T.heap b C true := by
    rcases hins with q | q
    · subst q; exact Ins.self E2
    · exact Ins.of_exa E2 q
  obtain ⟨T', h', X', e', W, stp⟩ := stR X hx hZ rfl A q1 rfl (Sto.of A (O C rfl) J) (g := mkF m pc ls (.ref b :: .int j :: .ref a :: st)) rfl rfl hd
  subst e'
  exact (k T' ⟨hx, hZ, hlk, _, X', Fr.snoc X' N ha, H.wr hi W (I.store W rfl)⟩).step stp
theorem W_initO (B : oB p l e R s m args below meth c Z h0 lo T cells slots ds) {own : String} {i : Nat} {a : Addr} {W : Nat} (hown : s.vm.findClass own = some m.cls) (w1 : (Jvm.Cond.methodLink own i Lib.objectInit).before a0 Z = true) (w2 : (Jvm.Cond.instanceMethod Lib.objectInit).before a0 Z = true) (w3 : (Jvm.Cond.code Lib.objectInit ⟨#[0xb1]⟩ 1 none).before a0 Z = true) (hd : decode c.code pc = .ok (.invokespecial i, 3)) (hp : pc + 3 = pc') (hsz : ls.size = c.maxLocals) (hW : (st.map fun v => v.category).sum ≤ W) (hr : 1 ≤ R.frames ∧ W + 12 ≤ R.locals)
    (k : ∀ T, oB p l e R s m args below meth c Z h0 lo T cells slots ds → oWin p e below Z h0 Q E (T.setTop (mkF m pc' ls st))) : oWin p e below Z h0 Q E (T.setTop (mkF m pc ls (.ref a :: st))) := by
  subst hp
  obtain ⟨hx, hZ, hlk, locs, X, N, H⟩ := B
  obtain ⟨T', X', e', stp⟩ := initO X hx hZ hown w1 w2 w3 rfl (g := mkF m pc ls (.ref a :: st)) rfl hsz rfl hd hr.1 (W := W) (by simpa using hW) hr.2
  exact (k T' ⟨hx, hZ, hlk, locs, X', N, e' ▸ H⟩).step stp
theorem W_callS (B : oB p l e R s m args below meth c Z h0 lo T cells slots ds) {own : String} {i : Nat} {y : MethodName} {bytes : ByteArray} {maxL : Nat} {ret : Option FieldType} {rm : Room} {Q' : Option Value → oDs → Prop} {argsL rest : List Value} {W : Nat} (hown : s.vm.findClass own = some m.cls) (w1 : (Jvm.Cond.methodLink own i y).before a0 Z = true) (w2 : (Jvm.Cond.static y).before a0 Z = true) (w3 : (Jvm.Cond.initialized y.cls).before a0 Z = true) (w4 : (Jvm.Cond.code y bytes maxL ret).before a0 Z = true) (hy : y.cls ≠ "java/lang/invoke/MethodHandle" ∧ y.cls ≠ "java/lang/invoke/VarHandle")
    (hM : oMet l Z h0 lo y bytes maxL ret [] rm argsL.toArray ds Q') (hlen : ∀ sig, parseMethodDescriptor y.desc = some sig → argsL.length = sig.parameters.length) (hd : decode c.code pc = .ok (.invokestatic i, 3)) (hp : pc + 3 = pc') (hst : st = argsL.reverse ++ rest) (hsz : ls.size = c.maxLocals) (hW : (rest.map fun v => v.category).sum ≤ W)
    (hr : rm.frames + 1 ≤ R.frames ∧ W + (maxL + 11) + rm.locals ≤ R.locals ∧ cells + rm.cells ≤ R.cells ∧ slots + rm.slots ≤ R.slots) {cells' slots' : Nat} (hc' : cells + rm.cells = cells') (hs' : slots + rm.slots = slots')
    (k : ∀ T v ds', Q' v ds' → oB p l e R s m args below meth c Z h0 lo T cells' slots' ds' → oWin p e below Z h0 Q E (T.setTop (mkF m pc' ls (v.toList ++ rest)))) : oWin p e below Z h0 Q E (T.setTop (mkF m pc ls st)) := by
  subst hp hst hc' hs'
  obtain ⟨hx, hZ, hlk, locs, X, N, H⟩ := B
  obtain ⟨v, vm1, ⟨T', L', k', n'⟩, -, X', ⟨Lc, ⟨N', ds', H', hQ⟩, e1, e2, e3⟩, stp⟩ := Jvm.LawKit.callS X hx (y := y) hown (mvT hZ w1) (mvT hZ w2) (mvT hZ w3) (mvT hZ w4) hy (backOf (W := W) (Q := fun v h L => Fr h0.size L ∧ ∃ ds', oHP Z h0 lo h ds' ∧ Q' v ds') (hM _ H) hZ w4 w3 hr.1 hr.2.1) (g := mkF m pc ls (argsL.reverse ++ rest)) rfl hsz hlen rfl (by simpa using hW) hd (fun _ _ => ⟨rfl, rfl, hr.2.2.1, hr.2.2.2⟩)
  dsimp only [Pt.U, Pt.locs, Pt.cells, Pt.slots] at X' e1 e2 e3 stp H'
  subst e1 e2 e3
  exact (k T' v ds' hQ ⟨hx, hZ, hlk, _, X', N.app N', H'⟩).step stp
theorem W_init (B : oB p l e R s m args below meth c Z h0 lo T cells slots ds) {own : String} {i : Nat} {y : MethodName} {bytes : ByteArray} {maxL : Nat} {rm : Room} {Q' : Option Value → oDs → Prop} {a : Addr} {argsL rest : List Value} {W : Nat} (hown : s.vm.findClass own = some m.cls) (hy1 : y.name = "<init>") (w1 : (Jvm.Cond.methodLink own i y).before a0 Z = true) (w2 : (Jvm.Cond.instanceMethod y).before a0 Z = true) (w3 : (Jvm.Cond.initialized y.cls).before a0 Z = true) (w4 : (Jvm.Cond.code y bytes maxL none).before a0 Z = true) (hy : y.cls ≠ "java/lang/invoke/MethodHandle" ∧ y.cls ≠ "java/lang/invoke/VarHandle")
    (hM : oMet l Z h0 lo y bytes maxL none [] rm (.ref a :: argsL).toArray ds Q') (hlen : ∀ sig, parseMethodDescriptor y.desc = some sig → argsL.length = sig.parameters.length) (hd : decode c.code pc = .ok (.invokespecial i, 3)) (hp : pc + 3 = pc') (hst : st = argsL.reverse ++ .ref a :: rest) (hsz : ls.size = c.maxLocals) (hW : (rest.map fun v => v.category).sum ≤ W)
    (hr : rm.frames + 1 ≤ R.frames ∧ W + (maxL + 11) + rm.locals ≤ R.locals ∧ cells + rm.cells ≤ R.cells ∧ slots + rm.slots ≤ R.slots) {cells' slots' : Nat} (hc' : cells + rm.cells = cells') (hs' : slots + rm.slots = slots')
    (k : ∀ T v ds', Q' v ds' → oB p l e R s m args below meth c Z h0 lo T cells' slots' ds' → oWin p e below Z h0 Q E (T.setTop (mkF m pc' ls (v.toList ++ rest)))) : oWin p e below Z h0 Q E (T.setTop (mkF m pc ls st)) := by
  subst hp hst hc' hs'
  obtain ⟨hx, hZ, hlk, locs, X, N, H⟩ := B
  obtain ⟨v, vm1, ⟨T', L', k', n'⟩, -, X', ⟨Lc, ⟨N', ds', H', hQ⟩, e1, e2, e3⟩, stp⟩ := X.specialBack hx (y := y) hy1 hown (mvT hZ w1) (mvT hZ w2) (mvT hZ w4) hy (backOf (W := W) (Q := fun v h L => Fr h0.size L ∧ ∃ ds', oHP Z h0 lo h ds' ∧ Q' v ds') (hM _ H) hZ w4 w3 hr.1 hr.2.1) (g := mkF m pc ls (argsL.reverse ++ .ref a :: rest)) rfl hsz (Steps.refl _) (a := a) hlen rfl (by simpa using hW) hd (fun _ _ => ⟨rfl, rfl, hr.2.2.1, hr.2.2.2⟩)
  dsimp only [Pt.U, Pt.locs, Pt.cells, Pt.slots] at X' e1 e2 e3 stp H'
  subst e1 e2 e3
  exact (k T' v ds' hQ ⟨hx, hZ, hlk, _, X', N.app N', H'⟩).steps stp
theorem W_virtual (B : oB p l e R s m args below meth c Z h0 lo T cells slots ds) {own C : String} {i j : Nat} {y z : MethodName} {bytes : ByteArray} {maxL : Nat} {ret : Option FieldType} {rm : Room} {Q' : Option Value → oDs → Prop} {a : Addr} {fs : List (oFK × Value)} {argsL rest : List Value} {W : Nat} (hown : s.vm.findClass own = some m.cls) (w1 : (Jvm.Cond.methodLink own i y).before a0 Z = true) (w2 : (Jvm.Cond.declares y).before a0 Z = true) (hnf : NotFace s y) (ws : (Jvm.Cond.selects C y z).before a0 Z = true) (wm : (Jvm.Cond.instanceMethod z).before a0 Z = true) (w3 : (Jvm.Cond.initialized z.cls).before a0 Z = true) (w4 : (Jvm.Cond.code z bytes maxL ret).before a0 Z = true) (hy : y.cls ≠ "java/lang/invoke/MethodHandle" ∧ y.cls ≠ "java/lang/invoke/VarHandle")
    (hM : oMet l Z h0 lo z bytes maxL ret [] rm (.ref a :: argsL).toArray ds Q') (hlen : ∀ sig, parseMethodDescriptor y.desc = some sig → argsL.length = sig.parameters.length) (hd : decode c.code pc = .ok (.invokevirtual i, 3)) (hp : pc + 3 = pc') (hst : st = argsL.reverse ++ .ref a :: rest) (hsz : ls.size = c.maxLocals) (hW : (rest.map fun v => v.category).sum ≤ W) (hi : ds[j]? = some (a, oO C fs))
    (hr : rm.frames + 1 ≤ R.frames ∧ W + (maxL + 11) + rm.locals ≤ R.locals ∧ cells + rm.cells ≤ R.cells ∧ slots + rm.slots ≤ R.slots) {cells' slots' : Nat} (hc' : cells + rm.cells = cells') (hs' : slots + rm.slots = slots')
    (k : ∀ T v ds', Q' v ds' → oB p l e R s m args below meth c Z h0 lo T cells' slots' ds' → oWin p e below Z h0 Q E (T.setTop (mkF m pc' ls (v.toList ++ rest)))) : oWin p e below Z h0 Q E (T.setTop (mkF m pc ls st)) := by
  subst hp hst hc' hs'
  obtain ⟨hx, hZ, hlk, locs, X, N, H⟩ := B
  obtain ⟨cq, kq, q1, q2, q3⟩ := isOf (T := T) hZ rfl (H.at hi).2.1
  obtain ⟨v, vm1, ⟨T', L', k', n'⟩, -, X', ⟨Lc, ⟨N', ds', H', hQ⟩, e1, e2, e3⟩, stp⟩ := X.virtualBack hx (y := y) (z := z) hown (mvT hZ w1) (mvT hZ w2) hnf (mvT hZ ws) (mvT hZ wm) hy (backOf (W := W) (Q := fun v h L => Fr h0.size L ∧ ∃ ds', oHP Z h0 lo h ds' ∧ Q' v ds') (hM _ H) hZ w4 w3 hr.1 hr.2.1) q1 q3 (g := mkF m pc ls (argsL.reverse ++ .ref a :: rest)) rfl hsz (Steps.refl _) hlen rfl (by simpa using hW) hd (fun _ _ => ⟨rfl, rfl, hr.2.2.1, hr.2.2.2⟩)
  dsimp only [Pt.U, Pt.locs, Pt.cells, Pt.slots] at X' e1 e2 e3 stp H'
  subst e1 e2 e3
  exact (k T' v ds' hQ ⟨hx, hZ, hlk, _, X', N.app N', H'⟩).steps stp
theorem oNotFace (B : oB p l e R s m args below meth c Z h0 lo T cells slots ds) {C : String} {y z : MethodName} (ws : (Jvm.Cond.selects C y z).before a0 Z = true) (hyz : y = z) : NotFace s y := by
  subst hyz; exact notFace_of_selects (args := #[]) (mvT B.2.1 ws)
theorem oWin.leave (B : oB p l e R s m args below meth c Z h0 lo T cells slots ds) {v : Option Value} {S : State} (hv : meth.sig.returnType = none → v = none) (hq : Q v ds) (hr : cells ≤ kc ∧ slots ≤ ks) (hstep : ∀ fs, (∀ (f : JFrame) (acts : List Action), f.method = m → f.locked = none → f.entered = [] → (doReturn e (T.setTop f) acts v).1 = T.setFrames fs) → Steps p.tables e below S (T.setFrames fs)) : oWin p e below Z h0 Q (oFE s lo kc ks) S := by
  obtain ⟨hx, hZ, hlk, locs, X, N, H⟩ := B
  obtain ⟨fs, hrr, hrun, hended, hW, hsame⟩ := X.leave (v := v) hv hlk
  exact ⟨_, _, hstep fs hrr, hrun, hended, v, locs, rfl, ⟨N, lo, ds, H, hq⟩, H.1.2, ⟨_, rfl⟩, hW, hsame.mono hr.1 hr.2⟩
theorem oWin.leaveW {vm₁ : Vm} (B : oB p l e R (s.setVm vm₁) m args below meth c Z h0 lo T cells slots ds) (hS : s.Since vm₁ lo) {v : Option Value} {S : State} (hv : meth.sig.returnType = none → v = none) (hq : Q v ds) (hr : cells ≤ kc ∧ slots ≤ ks) (hstep : ∀ fs, (∀ (f : JFrame) (acts : List Action), f.method = m → f.locked = none → f.entered = [] → (doReturn e (T.setTop f) acts v).1 = T.setFrames fs) → Steps p.tables e below S (T.setFrames fs)) : oWin p e below Z h0 Q (oFW s kc ks) S := by
  obtain ⟨hx, hZ, hlk, locs, X, N, H⟩ := B
  obtain ⟨fs, hrr, hrun, hended, h1, h2, h3, h4⟩ := X.leaveW hS H.1.2 (v := v) hv hlk
  exact ⟨_, _, hstep fs hrr, hrun, hended, v, locs, rfl, ⟨N, lo, ds, H, hq⟩, h1, h2, h3, h4.mono hr.1 hr.2⟩
theorem W_retNW {vm₁ : Vm} (B : oB p l e R (s.setVm vm₁) m args below meth c Z h0 lo T cells slots ds) (hS : s.Since vm₁ lo) {z : Int32} {t : FieldType} (hret : meth.sig.returnType = some t) (ht : t = .boolean ∨ t = .byte ∨ t = .char ∨ t = .short) (hd : decode c.code pc = .ok (.ireturn, 1)) (hr : cells ≤ kc ∧ slots ≤ ks) (hq : Q (some (.int (nar t z))) ds) : oWin p e below Z h0 Q (oFW s kc ks) (T.setTop (mkF m pc ls (.int z :: st))) := by
  have B' := B
  obtain ⟨hx, hZ, hlk, locs, X, N, H⟩ := B'
  exact oWin.leaveW B hS (v := some (.int (nar t z))) (fun h => by rw [hret] at h; cases h) hq hr fun fs hl => retN X hx hret ht hd hl
theorem W_ldcStr {vm₀ : Vm} (B : oB p l e R (s.setVm vm₀) m args below meth c Z h0 lo T cells slots ds) (hS : s.Since vm₀ lo) {own text : String} {i n : Nat} (hown : (s.setVm vm₀).vm.findClass own = some m.cls) (w : (Jvm.Cond.stringLink own i text).before a0 Z = true) (wS : ∀ a ∈ Bundle.stringAtoms, a.before a0 Z = true) (hd : decode c.code pc = .ok (.ldc i, 2)) (hp : pc + 2 = pc') (hn : 4 * text.toList.length ≤ n) (hr : n ≤ 536870912 ∧ cells + 2 ≤ R.cells ∧ slots + (n + 4) ≤ R.slots) {cells' slots' : Nat} (hc' : cells + 2 = cells') (hs' : slots + (n + 4) = slots')
    (k : ∀ T a vm₁ lo', oB p l e R (s.setVm vm₁) m args below meth c Z h0 lo' T cells' slots' ds → s.Since vm₁ lo' → (s.setVm vm₁).vm.findClass own = some m.cls → oWin p e below Z h0 Q E (T.setTop (mkF m pc' ls (.ref a :: st)))) : oWin p e below Z h0 Q E (T.setTop (mkF m pc ls st)) := by
  subst hp hc' hs'
  obtain ⟨hx, hZ, hlk, locs, X, N, H⟩ := B
  obtain ⟨a, T', h', k1, X', e', E1, hS', hk1, hZ', hown', stp⟩ := ldcS X hx hZ hown w wS rfl hS H.1.2 (g := mkF m pc ls st) rfl hd hn hr.1 hr.2.1 hr.2.2
  subst e'
  exact (k T' a T'.vm k1 ⟨hx, hZ', hlk, locs, X', N, H.more E1 hk1⟩ hS' hown').step stp
theorem W_retI (B : oB p l e R s m args below meth c Z h0 lo T cells slots ds) {z : Int32} (hret : meth.sig.returnType = some .int) (hd : decode c.code pc = .ok (.ireturn, 1)) (hr : cells ≤ kc ∧ slots ≤ ks) (hq : Q (some (.int z)) ds) : oWin p e below Z h0 Q (oFE s lo kc ks) (T.setTop (mkF m pc ls (.int z :: st))) := by
  have B' := B
  obtain ⟨hx, hZ, hlk, locs, X, N, H⟩ := B'
  refine oWin.leave B (v := some (.int z)) (fun h => by rw [hret] at h; cases h) hq hr fun fs hl => ?_
  have hm' : T.vm.method? m = some meth := X.method'
  have hn : narrow .int (.int z) = .int z := rfl
  show Steps p.tables e below (T.setTop { method := m, pc := pc, locals := ls, stack := _ :: st, locked := none }) _
  jvm_step X.here [X.here.top, hx, hd, hm', hret, hn]
  first | (intro acts; rw [hl _ acts rfl rfl rfl]) | rw [hl _ _ rfl rfl rfl]
  exact Steps.refl _
theorem W_retL (B : oB p l e R s m args below meth c Z h0 lo T cells slots ds) {z : Int64} (hret : meth.sig.returnType = some .long) (hd : decode c.code pc = .ok (.lreturn, 1)) (hr : cells ≤ kc ∧ slots ≤ ks) (hq : Q (some (.long z)) ds) : oWin p e below Z h0 Q (oFE s lo kc ks) (T.setTop (mkF m pc ls (.long z :: st))) := by
  have B' := B
  obtain ⟨hx, hZ, hlk, locs, X, N, H⟩ := B'
  refine oWin.leave B (v := some (.long z)) (fun h => by rw [hret] at h; cases h) hq hr fun fs hl => ?_
  have hm' : T.vm.method? m = some meth := X.method'
  show Steps p.tables e below (T.setTop { method := m, pc := pc, locals := ls, stack := _ :: st, locked := none }) _
  jvm_step X.here [X.here.top, hx, hd, hm', hret, narrow]
  first | (intro acts; rw [hl _ acts rfl rfl rfl]) | rw [hl _ _ rfl rfl rfl]
  exact Steps.refl _
theorem W_retN (B : oB p l e R s m args below meth c Z h0 lo T cells slots ds) {z : Int32} {t : FieldType} (hret : meth.sig.returnType = some t) (ht : t = .boolean ∨ t = .byte ∨ t = .char ∨ t = .short) (hd : decode c.code pc = .ok (.ireturn, 1)) (hr : cells ≤ kc ∧ slots ≤ ks) (hq : Q (some (.int (nar t z))) ds) : oWin p e below Z h0 Q (oFE s lo kc ks) (T.setTop (mkF m pc ls (.int z :: st))) := by
  have B' := B
  obtain ⟨hx, hZ, hlk, locs, X, N, H⟩ := B'
  exact oWin.leave B (v := some (.int (nar t z))) (fun h => by rw [hret] at h; cases h) hq hr fun fs hl => retN X hx hret ht hd hl
theorem W_retV (B : oB p l e R s m args below meth c Z h0 lo T cells slots ds) (hret : meth.sig.returnType = none) (hd : decode c.code pc = .ok (.return_, 1)) (hr : cells ≤ kc ∧ slots ≤ ks) (hq : Q none ds) : oWin p e below Z h0 Q (oFE s lo kc ks) (T.setTop (mkF m pc ls [])) := by
  have B' := B
  obtain ⟨hx, hZ, hlk, locs, X, N, H⟩ := B'
  exact oWin.leave B (v := none) (fun _ => rfl) hq hr fun fs hl => X.returnOut hx hret hd hl
theorem W_retA (B : oB p l e R s m args below meth c Z h0 lo T cells slots ds) {v : Value} {t : FieldType} (hret : meth.sig.returnType = some t) (ht : t.isReference = true) (hv : v.isRef = true) (hd : decode c.code pc = .ok (.areturn, 1)) (hr : cells ≤ kc ∧ slots ≤ ks) (hq : Q (some v) ds) : oWin p e below Z h0 Q (oFE s lo kc ks) (T.setTop (mkF m pc ls (v :: st))) := by
  have B' := B
  obtain ⟨hx, hZ, hlk, locs, X, N, H⟩ := B'
  refine oWin.leave B (v := some v) (fun h => by rw [hret] at h; cases h) hq hr fun fs hl => ?_
  have hm' : T.vm.method? m = some meth := X.method'
  show Steps p.tables e below (T.setTop { method := m, pc := pc, locals := ls, stack := _ :: st, locked := none }) _
  cases v <;> simp [Value.isRef] at hv
  all_goals
    jvm_step X.here [X.here.top, hx, hd, hm', hret, Value.isRef, FieldType.isReference, ht]
    refine ⟨ht, fun acts => ?_⟩
    rw [hl _ acts rfl rfl rfl]
    exact Steps.refl _
theorem oB_ne (B : oB p l e R s m args below meth c Z h0 lo T cells slots ds) {i j : Nat} {x y : Addr × oD} (hi : ds[i]? = some x) (hj : ds[j]? = some y) (ne : i ≠ j) : x.1 ≠ y.1 := by
  obtain ⟨hx, hZ, hlk, locs, X, N, H⟩ := B
  exact H.ne hi hj ne
theorem oB_new (B : oB p l e R s m args below meth c Z h0 lo T cells slots ds) {i : Nat} {x : Addr × oD} (hi : ds[i]? = some x) : h0.size ≤ x.1 := by
  obtain ⟨hx, hZ, hlk, locs, X, N, H⟩ := B
  exact (H.at (a := x.1) (d := x.2) hi).1
theorem oJoin (B : oB p l e R s m args below meth c Z h0 lo T cells slots ds) {α : Type} (P : α → Prop) (f : α → JFrame) {g : JFrame} (h1 : (∀ z T', P z → oB p l e R s m args below meth c Z h0 lo T' cells slots ds → oWin p e below Z h0 Q E (T'.setTop (f z))) → oWin p e below Z h0 Q E (T.setTop g)) (h2 : ∀ z T', P z → oB p l e R s m args below meth c Z h0 lo T' cells slots ds → oWin p e below Z h0 Q E (T'.setTop (f z))) : oWin p e below Z h0 Q E (T.setTop g) := h1 h2
theorem oJoinD (B : oB p l e R s m args below meth c Z h0 lo T cells slots ds) {α : Type} (cells' slots' : Nat) (P : α → Prop) (f : α → JFrame) (D : α → oDs) {g : JFrame} (h1 : (∀ z T', P z → oB p l e R s m args below meth c Z h0 lo T' cells' slots' (D z) → oWin p e below Z h0 Q E (T'.setTop (f z))) → oWin p e below Z h0 Q E (T.setTop g)) (h2 : ∀ z T', P z → oB p l e R s m args below meth c Z h0 lo T' cells' slots' (D z) → oWin p e below Z h0 Q E (T'.setTop (f z))) : oWin p e below Z h0 Q E (T.setTop g) := h1 h2
theorem oNatLt {x : Int32} {k : Nat} (h : x.toInt < k) (hk : 0 < k) : x.toNatClampNeg < k := by
  show x.toInt.toNat < k
  omega
theorem W_virtualOld (B : oB p l e R s m args below meth c Z h0 lo T cells slots ds) {own C : String} {i : Nat} {y z : MethodName} {bytes : ByteArray} {maxL : Nat} {ret : Option FieldType} {rm : Room} {Q' : Option Value → oDs → Prop} {a : Addr} {argsL rest : List Value} {W : Nat} (hown : s.vm.findClass own = some m.cls) (w1 : (Jvm.Cond.methodLink own i y).before a0 Z = true) (w2 : (Jvm.Cond.declares y).before a0 Z = true) (hnf : NotFace s y) (ws : (Jvm.Cond.selects C y z).before a0 Z = true) (wm : (Jvm.Cond.instanceMethod z).before a0 Z = true) (w3 : (Jvm.Cond.initialized z.cls).before a0 Z = true) (w4 : (Jvm.Cond.code z bytes maxL ret).before a0 Z = true) (hy : y.cls ≠ "java/lang/invoke/MethodHandle" ∧ y.cls ≠ "java/lang/invoke/VarHandle")
    (hM : oMet l Z h0 lo z bytes maxL ret [] rm (.ref a :: argsL).toArray ds Q') (hlen : ∀ sig, parseMethodDescriptor y.desc = some sig → argsL.length = sig.parameters.length) (hd : decode c.code pc = .ok (.invokevirtual i, 3)) (hp : pc + 3 = pc') (hst : st = argsL.reverse ++ .ref a :: rest) (hsz : ls.size = c.maxLocals) (hW : (rest.map fun v => v.category).sum ≤ W) (hE : Exa Z h0 a C)
    (hr : rm.frames + 1 ≤ R.frames ∧ W + (maxL + 11) + rm.locals ≤ R.locals ∧ cells + rm.cells ≤ R.cells ∧ slots + rm.slots ≤ R.slots) {cells' slots' : Nat} (hc' : cells + rm.cells = cells') (hs' : slots + rm.slots = slots')
    (k : ∀ T v ds', Q' v ds' → oB p l e R s m args below meth c Z h0 lo T cells' slots' ds' → oWin p e below Z h0 Q E (T.setTop (mkF m pc' ls (v.toList ++ rest)))) : oWin p e below Z h0 Q E (T.setTop (mkF m pc ls st)) := by
  subst hp hst hc' hs'
  obtain ⟨hx, hZ, hlk, locs, X, N, H⟩ := B
  obtain ⟨cq, kq, q1, q2, q3⟩ := isOf (T := T) hZ rfl (hE.ext H.1.1)
  obtain ⟨v, vm1, ⟨T', L', k', n'⟩, -, X', ⟨Lc, ⟨N', ds', H', hQ⟩, e1, e2, e3⟩, stp⟩ := X.virtualBack hx (y := y) (z := z) hown (mvT hZ w1) (mvT hZ w2) hnf (mvT hZ ws) (mvT hZ wm) hy (backOf (W := W) (Q := fun v h L => Fr h0.size L ∧ ∃ ds', oHP Z h0 lo h ds' ∧ Q' v ds') (hM _ H) hZ w4 w3 hr.1 hr.2.1) q1 q3 (g := mkF m pc ls (argsL.reverse ++ .ref a :: rest)) rfl hsz (Steps.refl _) hlen rfl (by simpa using hW) hd (fun _ _ => ⟨rfl, rfl, hr.2.2.1, hr.2.2.2⟩)
  dsimp only [Pt.U, Pt.locs, Pt.cells, Pt.slots] at X' e1 e2 e3 stp H'
  subst e1 e2 e3
  exact (k T' v ds' hQ ⟨hx, hZ, hlk, _, X', N.app N', H'⟩).steps stp
theorem W_private (B : oB p l e R s m args below meth c Z h0 lo T cells slots ds) {own C : String} {i j : Nat} {y : MethodName} {bytes : ByteArray} {maxL : Nat} {ret : Option FieldType} {rm : Room} {Q' : Option Value → oDs → Prop} {a : Addr} {fs : List (oFK × Value)} {argsL rest : List Value} {W : Nat} (hown : s.vm.findClass own = some m.cls) (w1 : (Jvm.Cond.methodLink own i y).before a0 Z = true) (w2 : (Jvm.Cond.instanceMethod y).before a0 Z = true) (ws : (Jvm.Cond.selects y.cls y y).before a0 Z = true) (wp : (Jvm.Cond.privateMethod y).before a0 Z = true) (w3 : (Jvm.Cond.initialized y.cls).before a0 Z = true) (w4 : (Jvm.Cond.code y bytes maxL ret).before a0 Z = true) (hy : y.cls ≠ "java/lang/invoke/MethodHandle" ∧ y.cls ≠ "java/lang/invoke/VarHandle")
    (hM : oMet l Z h0 lo y bytes maxL ret [] rm (.ref a :: argsL).toArray ds Q') (hlen : ∀ sig, parseMethodDescriptor y.desc = some sig → argsL.length = sig.parameters.length) (hd : decode c.code pc = .ok (.invokevirtual i, 3)) (hp : pc + 3 = pc') (hst : st = argsL.reverse ++ .ref a :: rest) (hsz : ls.size = c.maxLocals) (hW : (rest.map fun v => v.category).sum ≤ W) (hi : ds[j]? = some (a, oO C fs))
    (hr : rm.frames + 1 ≤ R.frames ∧ W + (maxL + 11) + rm.locals ≤ R.locals ∧ cells + rm.cells ≤ R.cells ∧ slots + rm.slots ≤ R.slots) {cells' slots' : Nat} (hc' : cells + rm.cells = cells') (hs' : slots + rm.slots = slots')
    (k : ∀ T v ds', Q' v ds' → oB p l e R s m args below meth c Z h0 lo T cells' slots' ds' → oWin p e below Z h0 Q E (T.setTop (mkF m pc' ls (v.toList ++ rest)))) : oWin p e below Z h0 Q E (T.setTop (mkF m pc ls st)) := by
  subst hp hst hc' hs'
  obtain ⟨hx, hZ, hlk, locs, X, N, H⟩ := B
  obtain ⟨cq, q1, q2⟩ := (H.at hi).2.1.cell
  obtain ⟨v, vm1, ⟨T', L', k', n'⟩, -, X', ⟨Lc, ⟨N', ds', H', hQ⟩, e1, e2, e3⟩, stp⟩ := X.privateBack hx (y := y) hown (mvT hZ w1) (mvT hZ w2) (mvT hZ ws) (Cond.privateMethod_at (mvP hZ wp (args := #[]))) (mvT hZ w4) hy (backOf (W := W) (Q := fun v h L => Fr h0.size L ∧ ∃ ds', oHP Z h0 lo h ds' ∧ Q' v ds') (hM _ H) hZ w4 w3 hr.1 hr.2.1) (g := mkF m pc ls (argsL.reverse ++ .ref a :: rest)) rfl hsz (Steps.refl _) (a := a) q1 q2 hlen rfl (by simpa using hW) hd (fun _ _ => ⟨rfl, rfl, hr.2.2.1, hr.2.2.2⟩)
  dsimp only [Pt.U, Pt.locs, Pt.cells, Pt.slots] at X' e1 e2 e3 stp H'
  subst e1 e2 e3
  exact (k T' v ds' hQ ⟨hx, hZ, hlk, _, X', N.app N', H'⟩).steps stp
end Wlaws
/-- is the i-th sign a line feed; is it a carriage return -/
def own_N (xs : List Int32) (i : Nat) : Bool := decide (xs.getD i 0 = (10 : Int32))
def own_C (xs : List Int32) (i : Nat) : Bool := decide (xs.getD i 0 = (13 : Int32))
/-- an empty line ends at e -/
def own_A (n c : Nat → Bool) (fr e : Nat) : Bool := decide (fr + 2 ≤ e) && n (e - 1) && (n (e - 2) || (decide (fr + 3 ≤ e) && c (e - 2) && n (e - 3)))
/-- what the loop answers, from the place i on, k turns at the most -/
def own_G (n c : Nat → Bool) (to : Nat) : Nat → Nat → Int
  | 0, _ => -1
  | k + 1, i => bif decide (i < to) then (bif n i && decide (i + 1 < to) && n (i + 1) then ((i + 2 : Nat) : Int) else bif n i && decide (i + 2 < to) && c (i + 1) && n (i + 2) then ((i + 3 : Nat) : Int) else own_G n c to k (i + 1)) else -1
def own_end (n c : Nat → Bool) (to fr : Nat) : Int := own_G n c to (8 - fr) fr
/-- what the law expects: the least end -/
def own_S (n c : Nat → Bool) (fr to e : Nat) (r : Int) : Int := bif decide (e ≤ to) && own_A n c fr e then (e : Int) else r
def own_X (n c : Nat → Bool) (fr to : Nat) : Int := own_S n c fr to 2 (own_S n c fr to 3 (own_S n c fr to 4 (own_S n c fr to 5 (own_S n c fr to 6 (-1)))))
def own_T (ts : List (Fin 3)) (k : Fin 3) (i : Nat) : Bool := decide (ts.getD i 2 = k)
theorem own_all : ∀ a b c d e f : Fin 3, ∀ fr : Fin 8, ∀ to : Fin 7, own_end (own_T [a, b, c, d, e, f] 0) (own_T [a, b, c, d, e, f] 1) to.1 fr.1 = own_X (own_T [a, b, c, d, e, f] 0) (own_T [a, b, c, d, e, f] 1) fr.1 to.1 := by decide +kernel
def own_t (x : Int32) : Fin 3 := if x = 10 then 0 else if x = 13 then 1 else 2
theorem own_t0 (x : Int32) : decide (x = (10 : Int32)) = decide (own_t x = (0 : Fin 3)) := by
  unfold own_t
  by_cases h : x = 10
  · simp [h]
  · by_cases h2 : x = 13 <;> simp [h, h2]
theorem own_t1 (x : Int32) : decide (x = (13 : Int32)) = decide (own_t x = (1 : Fin 3)) := by
  unfold own_t
  by_cases h : x = 10
  · simp [h]
  · by_cases h2 : x = 13 <;> simp [h, h2]
theorem own_NT (x0 x1 x2 x3 x4 x5 : Int32) : own_N [x0, x1, x2, x3, x4, x5] = own_T [own_t x0, own_t x1, own_t x2, own_t x3, own_t x4, own_t x5] 0 := by
  funext i
  match i with
  | 0 => exact own_t0 x0
  | 1 => exact own_t0 x1
  | 2 => exact own_t0 x2
  | 3 => exact own_t0 x3
  | 4 => exact own_t0 x4
  | 5 => exact own_t0 x5
  | n + 6 => rfl
theorem own_CT (x0 x1 x2 x3 x4 x5 : Int32) : own_C [x0, x1, x2, x3, x4, x5] = own_T [own_t x0, own_t x1, own_t x2, own_t x3, own_t x4, own_t x5] 1 := by
  funext i
  match i with
  | 0 => exact own_t1 x0
  | 1 => exact own_t1 x1
  | 2 => exact own_t1 x2
  | 3 => exact own_t1 x3
  | 4 => exact own_t1 x4
  | 5 => exact own_t1 x5
  | n + 6 => rfl
theorem own_law (x0 x1 x2 x3 x4 x5 : Int32) (fr to : Nat) (h1 : fr < 8) (h2 : to < 7) : own_end (own_N [x0, x1, x2, x3, x4, x5]) (own_C [x0, x1, x2, x3, x4, x5]) to fr = own_X (own_N [x0, x1, x2, x3, x4, x5]) (own_C [x0, x1, x2, x3, x4, x5]) fr to := by
  rw [own_NT, own_CT]
  exact own_all _ _ _ _ _ _ ⟨fr, h1⟩ ⟨to, h2⟩
theorem own_rem {v x : Int32} {d : Int32} {k : Nat} (h : v = (x &&& (2147483647 : Int32)) % d) (hd : d.toInt = k) (h0 : 0 < k) (h1 : d ≠ -1) : ∃ n : Nat, n < k ∧ v.toInt = n := by
  have f1 := omaskI x 2147483647 31 2147483648 (by decide) (by decide) (by decide)
  have f2 := (oirem (x &&& (2147483647 : Int32)) d k hd (by omega) h1).1 (by have := ogeI x; omega)
  rw [← h] at f2
  have g1 := Int.emod_nonneg (x &&& (2147483647 : Int32)).toInt (by omega : (k : Int) ≠ 0)
  have g2 := Int.emod_lt_of_pos (x &&& (2147483647 : Int32)).toInt (by omega : (0 : Int) < k)
  exact ⟨v.toInt.toNat, by omega, by omega⟩
theorem own_A_2 (n c : Nat → Bool) (fr : Nat) : own_A n c fr 2 = (decide (fr + 2 ≤ 2) && n 1 && (n 0 || (decide (fr + 3 ≤ 2) && c 0 && n 0))) := rfl
theorem own_A_3 (n c : Nat → Bool) (fr : Nat) : own_A n c fr 3 = (decide (fr + 2 ≤ 3) && n 2 && (n 1 || (decide (fr + 3 ≤ 3) && c 1 && n 0))) := rfl
theorem own_A_4 (n c : Nat → Bool) (fr : Nat) : own_A n c fr 4 = (decide (fr + 2 ≤ 4) && n 3 && (n 2 || (decide (fr + 3 ≤ 4) && c 2 && n 1))) := rfl
theorem own_A_5 (n c : Nat → Bool) (fr : Nat) : own_A n c fr 5 = (decide (fr + 2 ≤ 5) && n 4 && (n 3 || (decide (fr + 3 ≤ 5) && c 3 && n 2))) := rfl
theorem own_A_6 (n c : Nat → Bool) (fr : Nat) : own_A n c fr 6 = (decide (fr + 2 ≤ 6) && n 5 && (n 4 || (decide (fr + 3 ≤ 6) && c 4 && n 3))) := rfl
theorem own_G_0 (n c : Nat → Bool) (to : Nat) : own_G n c to 8 0 = bif decide (0 < to) then (bif n 0 && decide (1 < to) && n 1 then 2 else bif n 0 && decide (2 < to) && c 1 && n 2 then 3 else own_G n c to 7 1) else -1 := rfl
theorem own_G_1 (n c : Nat → Bool) (to : Nat) : own_G n c to 7 1 = bif decide (1 < to) then (bif n 1 && decide (2 < to) && n 2 then 3 else bif n 1 && decide (3 < to) && c 2 && n 3 then 4 else own_G n c to 6 2) else -1 := rfl
theorem own_G_2 (n c : Nat → Bool) (to : Nat) : own_G n c to 6 2 = bif decide (2 < to) then (bif n 2 && decide (3 < to) && n 3 then 4 else bif n 2 && decide (4 < to) && c 3 && n 4 then 5 else own_G n c to 5 3) else -1 := rfl
theorem own_G_3 (n c : Nat → Bool) (to : Nat) : own_G n c to 5 3 = bif decide (3 < to) then (bif n 3 && decide (4 < to) && n 4 then 5 else bif n 3 && decide (5 < to) && c 4 && n 5 then 6 else own_G n c to 4 4) else -1 := rfl
theorem own_G_4 (n c : Nat → Bool) (to : Nat) : own_G n c to 4 4 = bif decide (4 < to) then (bif n 4 && decide (5 < to) && n 5 then 6 else bif n 4 && decide (6 < to) && c 5 && n 6 then 7 else own_G n c to 3 5) else -1 := rfl
theorem own_G_5 (n c : Nat → Bool) (to : Nat) : own_G n c to 3 5 = bif decide (5 < to) then (bif n 5 && decide (6 < to) && n 6 then 7 else bif n 5 && decide (7 < to) && c 6 && n 7 then 8 else own_G n c to 2 6) else -1 := rfl
theorem own_G_6 (n c : Nat → Bool) (to : Nat) : own_G n c to 2 6 = bif decide (6 < to) then (bif n 6 && decide (7 < to) && n 7 then 8 else bif n 6 && decide (8 < to) && c 7 && n 8 then 9 else own_G n c to 1 7) else -1 := rfl
theorem own_G_7 (n c : Nat → Bool) (to : Nat) : own_G n c to 1 7 = bif decide (7 < to) then (bif n 7 && decide (8 < to) && n 8 then 9 else bif n 7 && decide (9 < to) && c 8 && n 9 then 10 else own_G n c to 0 8) else -1 := rfl
theorem d1_0 : decode method_3_code 0 = .ok (.iload_n 0, 1) := by decide +kernel
theorem d1_1 : decode method_3_code 1 = .ok (.iconst 3, 1) := by decide +kernel
theorem d1_2 : decode method_3_code 2 = .ok (.iload_n 3, 1) := by decide +kernel
theorem d1_3 : decode method_3_code 3 = .ok (.imul, 1) := by decide +kernel
theorem d1_4 : decode method_3_code 4 = .ok (.iushr, 1) := by decide +kernel
theorem d1_5 : decode method_3_code 5 = .ok (.bipush 7, 2) := by decide +kernel
theorem d1_7 : decode method_3_code 7 = .ok (.iand, 1) := by decide +kernel
theorem d1_8 : decode method_3_code 8 = .ok (.istore 4, 2) := by decide +kernel
theorem d1_10 : decode method_3_code 10 = .ok (.iload 4, 2) := by decide +kernel
theorem d1_12 : decode method_3_code 12 = .ok (.iconst 3, 1) := by decide +kernel
theorem d1_13 : decode method_3_code 13 = .ok (.if_icmp .ge 6, 3) := by decide +kernel
theorem d1_19 : decode method_3_code 19 = .ok (.iload 4, 2) := by decide +kernel
theorem d1_21 : decode method_3_code 21 = .ok (.iconst 5, 1) := by decide +kernel
theorem d1_22 : decode method_3_code 22 = .ok (.if_icmp .ge 6, 3) := by decide +kernel
theorem d1_28 : decode method_3_code 28 = .ok (.lload_n 1, 1) := by decide +kernel
theorem d1_29 : decode method_3_code 29 = .ok (.bipush 8, 2) := by decide +kernel
theorem d1_31 : decode method_3_code 31 = .ok (.iload_n 3, 1) := by decide +kernel
theorem d1_32 : decode method_3_code 32 = .ok (.imul, 1) := by decide +kernel
theorem d1_33 : decode method_3_code 33 = .ok (.lushr, 1) := by decide +kernel
theorem d1_34 : decode method_3_code 34 = .ok (.l2i, 1) := by decide +kernel
theorem d1_35 : decode method_3_code 35 = .ok (.i2b, 1) := by decide +kernel
theorem d1_36 : decode method_3_code 36 = .ok (.ireturn, 1) := by decide +kernel
theorem d1_25 : decode method_3_code 25 = .ok (.bipush 13, 2) := by decide +kernel
theorem d1_27 : decode method_3_code 27 = .ok (.ireturn, 1) := by decide +kernel
theorem d1_16 : decode method_3_code 16 = .ok (.bipush 10, 2) := by decide +kernel
theorem d1_18 : decode method_3_code 18 = .ok (.ireturn, 1) := by decide +kernel
theorem ef_rm1 (m : MethodId) (x0 : Int32) (x1 : Int64) (x2 : Int32) : entryFrame m #[(.int x0), (.long x1), (.int x2)] 5 = mkF m 0 #[.val (.int x0), .val (.long x1), .second, .val (.int x2), .unset] [] := by first | (simp [entryFrame, mkF, argsToLocals, Value.category]; done) | rfl
theorem pn_0 : plainName "com/example/hash_for_once/hashforonce/api/RequestHeadEndPinLaw" = true := by first | (simp [plainName, overriddenIn]; done) | decide +kernel
set_option maxRecDepth 65536 in
set_option maxHeartbeats 40000000 in
theorem rm1 (l : Launch) (Z : State) (a0 : Array Value) (hw : ∀ d ∈ tables_1, d.before a0 Z = true) (h0 : Heap) {lo : Nat} (k1 : Int32) (q1 : Int64) (i1 : Int32) (ds : oDs) :
    oMet l Z h0 lo (⟨"com/example/hash_for_once/hashforonce/api/RequestHeadEndPinLaw", "pick", "(IJI)B"⟩ : MethodName) method_3_code 5 (some .byte) [] ({ frames := 0, cells := 0, slots := 0, locals := 0 } : Room) #[(.int k1), (.long q1), (.int i1)] (ds) (fun (v : Option Value) (d : oDs) => (∃ (z : Int32), v = some (.int z) ∧ (ds) = d)) := by
  refine oMet.of_body (plainFor_of_name pn_0) ?_
  intro p e s m below meth c T B hby hml hown hnm hret
  refine W_entry (ef_rm1 m k1 q1 i1) ?_
  refine W_iloadN B (hb hby d1_0) (pc' := 1) rfl rfl ?_
  refine W_iconst B (hb hby d1_1) (pc' := 2) rfl (z := (3 : Int32)) (by decide) ?_
  refine W_iloadN B (hb hby d1_2) (pc' := 3) rfl rfl ?_
  refine W_imul B (hb hby d1_3) (pc' := 4) rfl (z := ((3 : Int32) * i1)) rfl ?_
  refine W_iushr B (hb hby d1_4) (pc' := 5) rfl (z := ((k1.toUInt32 >>> (((3 : Int32) * i1) &&& 31).toUInt32).toInt32)) rfl ?_
  refine W_bipush B (hb hby d1_5) (pc' := 7) rfl (z := (7 : Int32)) (by decide) ?_
  refine W_iand B (hb hby d1_7) (pc' := 8) rfl (z := (((k1.toUInt32 >>> (((3 : Int32) * i1) &&& 31).toUInt32).toInt32) &&& (7 : Int32))) rfl ?_
  obtain ⟨v1, hv1⟩ : ∃ z : Int32, z = (((k1.toUInt32 >>> (((3 : Int32) * i1) &&& 31).toUInt32).toInt32) &&& (7 : Int32)) := ⟨_, rfl⟩
  refine W_istore B (hb hby d1_8) (pc' := 10) rfl (v := v1) hv1.symm (ls' := #[.val (.int k1), .val (.long q1), .second, .val (.int i1), .val (.int v1)]) rfl ?_
  refine W_iload B (hb hby d1_10) (pc' := 12) rfl rfl ?_
  refine W_iconst B (hb hby d1_12) (pc' := 13) rfl (z := (3 : Int32)) (by decide) ?_
  refine W_icmp_ge B (hb hby d1_13) (by decide) (pt := 19) (by decide) (pc' := 16) rfl (fun (c2 : ¬ v1 < (3 : Int32)) => ?_) (fun (c2 : v1 < (3 : Int32)) => ?_)
  · refine W_iload B (hb hby d1_19) (pc' := 21) rfl rfl ?_
    refine W_iconst B (hb hby d1_21) (pc' := 22) rfl (z := (5 : Int32)) (by decide) ?_
    refine W_icmp_ge B (hb hby d1_22) (by decide) (pt := 28) (by decide) (pc' := 25) rfl (fun (c3 : ¬ v1 < (5 : Int32)) => ?_) (fun (c3 : v1 < (5 : Int32)) => ?_)
    · refine W_lloadN B (hb hby d1_28) (pc' := 29) rfl rfl ?_
      refine W_bipush B (hb hby d1_29) (pc' := 31) rfl (z := (8 : Int32)) (by decide) ?_
      refine W_iloadN B (hb hby d1_31) (pc' := 32) rfl rfl ?_
      refine W_imul B (hb hby d1_32) (pc' := 33) rfl (z := ((8 : Int32) * i1)) rfl ?_
      refine W_lushr B (hb hby d1_33) (pc' := 34) rfl (z := ((q1.toUInt64 >>> (((8 : Int32) * i1) &&& 0x3f).toInt64.toUInt64).toInt64)) rfl ?_
      refine W_l2i B (hb hby d1_34) (pc' := 35) rfl (z := (((q1.toUInt64 >>> (((8 : Int32) * i1) &&& 0x3f).toInt64.toUInt64).toInt64).toInt32)) rfl ?_
      refine W_i2b B (hb hby d1_35) (pc' := 36) rfl (z := ((((q1.toUInt64 >>> (((8 : Int32) * i1) &&& 0x3f).toInt64.toUInt64).toInt64).toInt32).toInt8.toInt32)) rfl ?_
      refine W_retN B hret (by simp) (hb hby d1_36) (by decide) ?_
      exact ⟨_, rfl, rfl⟩
    refine W_bipush B (hb hby d1_25) (pc' := 27) rfl (z := (13 : Int32)) (by decide) ?_
    refine W_retN B hret (by simp) (hb hby d1_27) (by decide) ?_
    exact ⟨_, rfl, rfl⟩
  refine W_bipush B (hb hby d1_16) (pc' := 18) rfl (z := (10 : Int32)) (by decide) ?_
  refine W_retN B hret (by simp) (hb hby d1_18) (by decide) ?_
  exact ⟨_, rfl, rfl⟩
theorem d3_0 : decode method_4_code 0 = .ok (.iload_n 2, 1) := by decide +kernel
theorem d3_1 : decode method_4_code 1 = .ok (.iconst 2, 1) := by decide +kernel
theorem d3_2 : decode method_4_code 2 = .ok (.isub, 1) := by decide +kernel
theorem d3_3 : decode method_4_code 3 = .ok (.iload_n 1, 1) := by decide +kernel
theorem d3_4 : decode method_4_code 4 = .ok (.if_icmp .ge 5, 3) := by decide +kernel
theorem d3_9 : decode method_4_code 9 = .ok (.aload_n 0, 1) := by decide +kernel
theorem d3_10 : decode method_4_code 10 = .ok (.iload_n 2, 1) := by decide +kernel
theorem d3_11 : decode method_4_code 11 = .ok (.iconst 1, 1) := by decide +kernel
theorem d3_12 : decode method_4_code 12 = .ok (.isub, 1) := by decide +kernel
theorem d3_13 : decode method_4_code 13 = .ok (.baload, 1) := by decide +kernel
theorem d3_14 : decode method_4_code 14 = .ok (.bipush 10, 2) := by decide +kernel
theorem d3_16 : decode method_4_code 16 = .ok (.if_icmp .eq 5, 3) := by decide +kernel
theorem d3_21 : decode method_4_code 21 = .ok (.aload_n 0, 1) := by decide +kernel
theorem d3_22 : decode method_4_code 22 = .ok (.iload_n 2, 1) := by decide +kernel
theorem d3_23 : decode method_4_code 23 = .ok (.iconst 2, 1) := by decide +kernel
theorem d3_24 : decode method_4_code 24 = .ok (.isub, 1) := by decide +kernel
theorem d3_25 : decode method_4_code 25 = .ok (.baload, 1) := by decide +kernel
theorem d3_26 : decode method_4_code 26 = .ok (.bipush 10, 2) := by decide +kernel
theorem d3_28 : decode method_4_code 28 = .ok (.if_icmp .ne 5, 3) := by decide +kernel
theorem d3_33 : decode method_4_code 33 = .ok (.iload_n 2, 1) := by decide +kernel
theorem d3_34 : decode method_4_code 34 = .ok (.iconst 3, 1) := by decide +kernel
theorem d3_35 : decode method_4_code 35 = .ok (.isub, 1) := by decide +kernel
theorem d3_36 : decode method_4_code 36 = .ok (.iload_n 1, 1) := by decide +kernel
theorem d3_37 : decode method_4_code 37 = .ok (.if_icmp .lt 27, 3) := by decide +kernel
theorem d3_64 : decode method_4_code 64 = .ok (.iconst 0, 1) := by decide +kernel
theorem d3_65 : decode method_4_code 65 = .ok (.ireturn, 1) := by decide +kernel
theorem d3_31 : decode method_4_code 31 = .ok (.iconst 1, 1) := by decide +kernel
theorem d3_32 : decode method_4_code 32 = .ok (.ireturn, 1) := by decide +kernel
theorem d3_19 : decode method_4_code 19 = .ok (.iconst 0, 1) := by decide +kernel
theorem d3_20 : decode method_4_code 20 = .ok (.ireturn, 1) := by decide +kernel
theorem d3_7 : decode method_4_code 7 = .ok (.iconst 0, 1) := by decide +kernel
theorem d3_8 : decode method_4_code 8 = .ok (.ireturn, 1) := by decide +kernel
theorem ef_rm3_2 (m : MethodId) (x0 : Addr) (x1 : Int32) : entryFrame m #[(.ref x0), (.int x1), (.int (2 : Int32))] 3 = mkF m 0 #[.val (.ref x0), .val (.int x1), .val (.int (2 : Int32))] [] := by first | (simp [entryFrame, mkF, argsToLocals, Value.category]; done) | rfl
set_option maxRecDepth 65536 in
set_option maxHeartbeats 40000000 in
theorem rm3_2 (l : Launch) (Z : State) (a0 : Array Value) (hw : ∀ d ∈ tables_1, d.before a0 Z = true) (h0 : Heap) {lo : Nat} (a1 : Addr) (f1 : Int32) (x0 : Int32) (x1 : Int32) (x2 : Int32) (x3 : Int32) (x4 : Int32) (x5 : Int32) (fr : Nat) (ds : oDs) (hf : f1.toInt = fr) :
    oMet l Z h0 lo (⟨"com/example/hash_for_once/hashforonce/api/RequestHeadEndPinLaw", "emptyLineEndsAt", "([BII)Z"⟩ : MethodName) method_4_code 3 (some .boolean) [] ({ frames := 0, cells := 0, slots := 0, locals := 0 } : Room) #[(.ref a1), (.int f1), (.int (2 : Int32))] ((a1, oA .byte [(.int x0), (.int x1), (.int x2), (.int x3), (.int x4), (.int x5)]) :: ds) (fun (v : Option Value) (d : oDs) => ((own_A (own_N [x0, x1, x2, x3, x4, x5]) (own_C [x0, x1, x2, x3, x4, x5]) fr 2 = true) ∧ v = some (.int (1 : Int32)) ∧ ((a1, oA .byte [(.int x0), (.int x1), (.int x2), (.int x3), (.int x4), (.int x5)]) :: ds) = d) ∨ ((own_A (own_N [x0, x1, x2, x3, x4, x5]) (own_C [x0, x1, x2, x3, x4, x5]) fr 2 = false) ∧ v = some (.int (0 : Int32)) ∧ ((a1, oA .byte [(.int x0), (.int x1), (.int x2), (.int x3), (.int x4), (.int x5)]) :: ds) = d)) := by
  refine oMet.of_body (plainFor_of_name pn_0) ?_
  intro p e s m below meth c T B hby hml hown hnm hret
  refine W_entry (ef_rm3_2 m a1 f1) ?_
  refine W_iloadN B (hb hby d3_0) (pc' := 1) rfl rfl ?_
  refine W_iconst B (hb hby d3_1) (pc' := 2) rfl (z := (2 : Int32)) (by decide) ?_
  refine W_isub B (hb hby d3_2) (pc' := 3) rfl (z := (0 : Int32)) (by decide) ?_
  refine W_iloadN B (hb hby d3_3) (pc' := 4) rfl rfl ?_
  refine W_icmp_ge B (hb hby d3_4) (by decide) (pt := 9) (by decide) (pc' := 7) rfl (fun (c4 : ¬ (0 : Int32) < f1) => ?_) (fun (c4 : (0 : Int32) < f1) => ?_)
  · refine W_aloadN B (hb hby d3_9) (pc' := 10) rfl rfl rfl ?_
    refine W_iloadN B (hb hby d3_10) (pc' := 11) rfl rfl ?_
    refine W_iconst B (hb hby d3_11) (pc' := 12) rfl (z := (1 : Int32)) (by decide) ?_
    refine W_isub B (hb hby d3_12) (pc' := 13) rfl (z := (1 : Int32)) (by decide) ?_
    refine W_baload B (hb hby d3_13) (pc' := 14) rfl (i := 0) rfl (by decide) (v := (.int x1)) rfl ?_
    refine W_bipush B (hb hby d3_14) (pc' := 16) rfl (z := (10 : Int32)) (by decide) ?_
    refine W_icmp_eq B (hb hby d3_16) (by decide) (pt := 21) (by decide) (pc' := 19) rfl (fun (c5 : x1 = (10 : Int32)) => ?_) (fun (c5 : ¬ x1 = (10 : Int32)) => ?_)
    · refine W_aloadN B (hb hby d3_21) (pc' := 22) rfl rfl rfl ?_
      refine W_iloadN B (hb hby d3_22) (pc' := 23) rfl rfl ?_
      refine W_iconst B (hb hby d3_23) (pc' := 24) rfl (z := (2 : Int32)) (by decide) ?_
      refine W_isub B (hb hby d3_24) (pc' := 25) rfl (z := (0 : Int32)) (by decide) ?_
      refine W_baload B (hb hby d3_25) (pc' := 26) rfl (i := 0) rfl (by decide) (v := (.int x0)) rfl ?_
      refine W_bipush B (hb hby d3_26) (pc' := 28) rfl (z := (10 : Int32)) (by decide) ?_
      refine W_icmp_ne B (hb hby d3_28) (by decide) (pt := 33) (by decide) (pc' := 31) rfl (fun (c6 : ¬ x0 = (10 : Int32)) => ?_) (fun (c6 : x0 = (10 : Int32)) => ?_)
      · refine W_iloadN B (hb hby d3_33) (pc' := 34) rfl rfl ?_
        refine W_iconst B (hb hby d3_34) (pc' := 35) rfl (z := (3 : Int32)) (by decide) ?_
        refine W_isub B (hb hby d3_35) (pc' := 36) rfl (z := (-1 : Int32)) (by decide) ?_
        refine W_iloadN B (hb hby d3_36) (pc' := 37) rfl rfl ?_
        have n7 : (-1 : Int32) < f1 := by
          refine oltI_i ?_
          have fq1 : ((-1 : Int32)).toInt = -1 := rfl
          have fq2 := orI f1
          have fq3 := hf
          have fq4 : ((0 : Int32)).toInt = 0 := rfl
          have fq5 := onltI c4
          have fq6 := orI x1
          have fq7 : ((10 : Int32)).toInt = 10 := rfl
          have fq8 := oeqI c5
          have fq9 := orI x0
          have fq10 := oneI c6
          omega
        refine W_icmpY B (hb hby d3_37) (by decide) (pc' := 64) (by decide) (tlt n7).1 ?_
        refine W_iconst B (hb hby d3_64) (pc' := 65) rfl (z := (0 : Int32)) (by decide) ?_
        refine W_retN B hret (by simp) (hb hby d3_65) (by decide) ?_
        have g1_ : decide (fr + 2 ≤ 2) = true := decide_eq_true (by have g_ := onltI c4; have q_ : ((0 : Int32)).toInt = 0 := rfl; omega)
        have g2_ : own_N [x0, x1, x2, x3, x4, x5] 1 = true := decide_eq_true c5
        have g3_ : own_N [x0, x1, x2, x3, x4, x5] 0 = false := decide_eq_false c6
        have g4_ : decide (fr + 3 ≤ 2) = false := decide_eq_false (by have g_ := oltI n7; have q_ : ((-1 : Int32)).toInt = -1 := rfl; omega)
        refine Or.inr ⟨?_, rfl, rfl⟩
        rw [own_A_2, g1_, g2_, g3_, g4_]
        first | done | rfl
      refine W_iconst B (hb hby d3_31) (pc' := 32) rfl (z := (1 : Int32)) (by decide) ?_
      refine W_retN B hret (by simp) (hb hby d3_32) (by decide) ?_
      have g1_ : decide (fr + 2 ≤ 2) = true := decide_eq_true (by have g_ := onltI c4; have q_ : ((0 : Int32)).toInt = 0 := rfl; omega)
      have g2_ : own_N [x0, x1, x2, x3, x4, x5] 1 = true := decide_eq_true c5
      have g3_ : own_N [x0, x1, x2, x3, x4, x5] 0 = true := decide_eq_true c6
      refine Or.inl ⟨?_, rfl, rfl⟩
      rw [own_A_2, g1_, g2_, g3_]
      first | done | rfl
    refine W_iconst B (hb hby d3_19) (pc' := 20) rfl (z := (0 : Int32)) (by decide) ?_
    refine W_retN B hret (by simp) (hb hby d3_20) (by decide) ?_
    have g1_ : decide (fr + 2 ≤ 2) = true := decide_eq_true (by have g_ := onltI c4; have q_ : ((0 : Int32)).toInt = 0 := rfl; omega)
    have g2_ : own_N [x0, x1, x2, x3, x4, x5] 1 = false := decide_eq_false c5
    refine Or.inr ⟨?_, rfl, rfl⟩
    rw [own_A_2, g1_, g2_]
    first | done | rfl
  refine W_iconst B (hb hby d3_7) (pc' := 8) rfl (z := (0 : Int32)) (by decide) ?_
  refine W_retN B hret (by simp) (hb hby d3_8) (by decide) ?_
  have g1_ : decide (fr + 2 ≤ 2) = false := decide_eq_false (by have g_ := oltI c4; have q_ : ((0 : Int32)).toInt = 0 := rfl; omega)
  refine Or.inr ⟨?_, rfl, rfl⟩
  rw [own_A_2, g1_]
  first | done | rfl
theorem d3_40 : decode method_4_code 40 = .ok (.aload_n 0, 1) := by decide +kernel
theorem d3_41 : decode method_4_code 41 = .ok (.iload_n 2, 1) := by decide +kernel
theorem d3_42 : decode method_4_code 42 = .ok (.iconst 2, 1) := by decide +kernel
theorem d3_43 : decode method_4_code 43 = .ok (.isub, 1) := by decide +kernel
theorem d3_44 : decode method_4_code 44 = .ok (.baload, 1) := by decide +kernel
theorem d3_45 : decode method_4_code 45 = .ok (.bipush 13, 2) := by decide +kernel
theorem d3_47 : decode method_4_code 47 = .ok (.if_icmp .ne 17, 3) := by decide +kernel
theorem d3_50 : decode method_4_code 50 = .ok (.aload_n 0, 1) := by decide +kernel
theorem d3_51 : decode method_4_code 51 = .ok (.iload_n 2, 1) := by decide +kernel
theorem d3_52 : decode method_4_code 52 = .ok (.iconst 3, 1) := by decide +kernel
theorem d3_53 : decode method_4_code 53 = .ok (.isub, 1) := by decide +kernel
theorem d3_54 : decode method_4_code 54 = .ok (.baload, 1) := by decide +kernel
theorem d3_55 : decode method_4_code 55 = .ok (.bipush 10, 2) := by decide +kernel
theorem d3_57 : decode method_4_code 57 = .ok (.if_icmp .ne 7, 3) := by decide +kernel
theorem d3_60 : decode method_4_code 60 = .ok (.iconst 1, 1) := by decide +kernel
theorem d3_61 : decode method_4_code 61 = .ok (.goto 4, 3) := by decide +kernel
theorem ef_rm3_3 (m : MethodId) (x0 : Addr) (x1 : Int32) : entryFrame m #[(.ref x0), (.int x1), (.int (3 : Int32))] 3 = mkF m 0 #[.val (.ref x0), .val (.int x1), .val (.int (3 : Int32))] [] := by first | (simp [entryFrame, mkF, argsToLocals, Value.category]; done) | rfl
set_option maxRecDepth 65536 in
set_option maxHeartbeats 40000000 in
theorem rm3_3 (l : Launch) (Z : State) (a0 : Array Value) (hw : ∀ d ∈ tables_1, d.before a0 Z = true) (h0 : Heap) {lo : Nat} (a1 : Addr) (f1 : Int32) (x0 : Int32) (x1 : Int32) (x2 : Int32) (x3 : Int32) (x4 : Int32) (x5 : Int32) (fr : Nat) (ds : oDs) (hf : f1.toInt = fr) :
    oMet l Z h0 lo (⟨"com/example/hash_for_once/hashforonce/api/RequestHeadEndPinLaw", "emptyLineEndsAt", "([BII)Z"⟩ : MethodName) method_4_code 3 (some .boolean) [] ({ frames := 0, cells := 0, slots := 0, locals := 0 } : Room) #[(.ref a1), (.int f1), (.int (3 : Int32))] ((a1, oA .byte [(.int x0), (.int x1), (.int x2), (.int x3), (.int x4), (.int x5)]) :: ds) (fun (v : Option Value) (d : oDs) => ((own_A (own_N [x0, x1, x2, x3, x4, x5]) (own_C [x0, x1, x2, x3, x4, x5]) fr 3 = true) ∧ v = some (.int (1 : Int32)) ∧ ((a1, oA .byte [(.int x0), (.int x1), (.int x2), (.int x3), (.int x4), (.int x5)]) :: ds) = d) ∨ ((own_A (own_N [x0, x1, x2, x3, x4, x5]) (own_C [x0, x1, x2, x3, x4, x5]) fr 3 = false) ∧ v = some (.int (0 : Int32)) ∧ ((a1, oA .byte [(.int x0), (.int x1), (.int x2), (.int x3), (.int x4), (.int x5)]) :: ds) = d)) := by
  refine oMet.of_body (plainFor_of_name pn_0) ?_
  intro p e s m below meth c T B hby hml hown hnm hret
  refine W_entry (ef_rm3_3 m a1 f1) ?_
  refine W_iloadN B (hb hby d3_0) (pc' := 1) rfl rfl ?_
  refine W_iconst B (hb hby d3_1) (pc' := 2) rfl (z := (2 : Int32)) (by decide) ?_
  refine W_isub B (hb hby d3_2) (pc' := 3) rfl (z := (1 : Int32)) (by decide) ?_
  refine W_iloadN B (hb hby d3_3) (pc' := 4) rfl rfl ?_
  refine W_icmp_ge B (hb hby d3_4) (by decide) (pt := 9) (by decide) (pc' := 7) rfl (fun (c8 : ¬ (1 : Int32) < f1) => ?_) (fun (c8 : (1 : Int32) < f1) => ?_)
  · refine W_aloadN B (hb hby d3_9) (pc' := 10) rfl rfl rfl ?_
    refine W_iloadN B (hb hby d3_10) (pc' := 11) rfl rfl ?_
    refine W_iconst B (hb hby d3_11) (pc' := 12) rfl (z := (1 : Int32)) (by decide) ?_
    refine W_isub B (hb hby d3_12) (pc' := 13) rfl (z := (2 : Int32)) (by decide) ?_
    refine W_baload B (hb hby d3_13) (pc' := 14) rfl (i := 0) rfl (by decide) (v := (.int x2)) rfl ?_
    refine W_bipush B (hb hby d3_14) (pc' := 16) rfl (z := (10 : Int32)) (by decide) ?_
    refine W_icmp_eq B (hb hby d3_16) (by decide) (pt := 21) (by decide) (pc' := 19) rfl (fun (c9 : x2 = (10 : Int32)) => ?_) (fun (c9 : ¬ x2 = (10 : Int32)) => ?_)
    · refine W_aloadN B (hb hby d3_21) (pc' := 22) rfl rfl rfl ?_
      refine W_iloadN B (hb hby d3_22) (pc' := 23) rfl rfl ?_
      refine W_iconst B (hb hby d3_23) (pc' := 24) rfl (z := (2 : Int32)) (by decide) ?_
      refine W_isub B (hb hby d3_24) (pc' := 25) rfl (z := (1 : Int32)) (by decide) ?_
      refine W_baload B (hb hby d3_25) (pc' := 26) rfl (i := 0) rfl (by decide) (v := (.int x1)) rfl ?_
      refine W_bipush B (hb hby d3_26) (pc' := 28) rfl (z := (10 : Int32)) (by decide) ?_
      refine W_icmp_ne B (hb hby d3_28) (by decide) (pt := 33) (by decide) (pc' := 31) rfl (fun (c10 : ¬ x1 = (10 : Int32)) => ?_) (fun (c10 : x1 = (10 : Int32)) => ?_)
      · refine W_iloadN B (hb hby d3_33) (pc' := 34) rfl rfl ?_
        refine W_iconst B (hb hby d3_34) (pc' := 35) rfl (z := (3 : Int32)) (by decide) ?_
        refine W_isub B (hb hby d3_35) (pc' := 36) rfl (z := (0 : Int32)) (by decide) ?_
        refine W_iloadN B (hb hby d3_36) (pc' := 37) rfl rfl ?_
        refine W_icmp_lt B (hb hby d3_37) (by decide) (pt := 64) (by decide) (pc' := 40) rfl (fun (c11 : (0 : Int32) < f1) => ?_) (fun (c11 : ¬ (0 : Int32) < f1) => ?_)
        · refine W_iconst B (hb hby d3_64) (pc' := 65) rfl (z := (0 : Int32)) (by decide) ?_
          refine W_retN B hret (by simp) (hb hby d3_65) (by decide) ?_
          have g1_ : decide (fr + 2 ≤ 3) = true := decide_eq_true (by have g_ := onltI c8; have q_ : ((1 : Int32)).toInt = 1 := rfl; omega)
          have g2_ : own_N [x0, x1, x2, x3, x4, x5] 2 = true := decide_eq_true c9
          have g3_ : own_N [x0, x1, x2, x3, x4, x5] 1 = false := decide_eq_false c10
          have g4_ : decide (fr + 3 ≤ 3) = false := decide_eq_false (by have g_ := oltI c11; have q_ : ((0 : Int32)).toInt = 0 := rfl; omega)
          refine Or.inr ⟨?_, rfl, rfl⟩
          rw [own_A_3, g1_, g2_, g3_, g4_]
          first | done | rfl
        refine W_aloadN B (hb hby d3_40) (pc' := 41) rfl rfl rfl ?_
        refine W_iloadN B (hb hby d3_41) (pc' := 42) rfl rfl ?_
        refine W_iconst B (hb hby d3_42) (pc' := 43) rfl (z := (2 : Int32)) (by decide) ?_
        refine W_isub B (hb hby d3_43) (pc' := 44) rfl (z := (1 : Int32)) (by decide) ?_
        refine W_baload B (hb hby d3_44) (pc' := 45) rfl (i := 0) rfl (by decide) (v := (.int x1)) rfl ?_
        refine W_bipush B (hb hby d3_45) (pc' := 47) rfl (z := (13 : Int32)) (by decide) ?_
        refine W_icmp_ne B (hb hby d3_47) (by decide) (pt := 64) (by decide) (pc' := 50) rfl (fun (c12 : ¬ x1 = (13 : Int32)) => ?_) (fun (c12 : x1 = (13 : Int32)) => ?_)
        · refine W_iconst B (hb hby d3_64) (pc' := 65) rfl (z := (0 : Int32)) (by decide) ?_
          refine W_retN B hret (by simp) (hb hby d3_65) (by decide) ?_
          have g1_ : decide (fr + 2 ≤ 3) = true := decide_eq_true (by have g_ := onltI c8; have q_ : ((1 : Int32)).toInt = 1 := rfl; omega)
          have g2_ : own_N [x0, x1, x2, x3, x4, x5] 2 = true := decide_eq_true c9
          have g3_ : own_N [x0, x1, x2, x3, x4, x5] 1 = false := decide_eq_false c10
          have g4_ : decide (fr + 3 ≤ 3) = true := decide_eq_true (by have g_ := onltI c11; have q_ : ((0 : Int32)).toInt = 0 := rfl; omega)
          have g5_ : own_C [x0, x1, x2, x3, x4, x5] 1 = false := decide_eq_false c12
          refine Or.inr ⟨?_, rfl, rfl⟩
          rw [own_A_3, g1_, g2_, g3_, g4_, g5_]
          first | done | rfl
        refine W_aloadN B (hb hby d3_50) (pc' := 51) rfl rfl rfl ?_
        refine W_iloadN B (hb hby d3_51) (pc' := 52) rfl rfl ?_
        refine W_iconst B (hb hby d3_52) (pc' := 53) rfl (z := (3 : Int32)) (by decide) ?_
        refine W_isub B (hb hby d3_53) (pc' := 54) rfl (z := (0 : Int32)) (by decide) ?_
        refine W_baload B (hb hby d3_54) (pc' := 55) rfl (i := 0) rfl (by decide) (v := (.int x0)) rfl ?_
        refine W_bipush B (hb hby d3_55) (pc' := 57) rfl (z := (10 : Int32)) (by decide) ?_
        refine W_icmp_ne B (hb hby d3_57) (by decide) (pt := 64) (by decide) (pc' := 60) rfl (fun (c13 : ¬ x0 = (10 : Int32)) => ?_) (fun (c13 : x0 = (10 : Int32)) => ?_)
        · refine W_iconst B (hb hby d3_64) (pc' := 65) rfl (z := (0 : Int32)) (by decide) ?_
          refine W_retN B hret (by simp) (hb hby d3_65) (by decide) ?_
          have g1_ : decide (fr + 2 ≤ 3) = true := decide_eq_true (by have g_ := onltI c8; have q_ : ((1 : Int32)).toInt = 1 := rfl; omega)
          have g2_ : own_N [x0, x1, x2, x3, x4, x5] 2 = true := decide_eq_true c9
          have g3_ : own_N [x0, x1, x2, x3, x4, x5] 1 = false := decide_eq_false c10
          have g4_ : decide (fr + 3 ≤ 3) = true := decide_eq_true (by have g_ := onltI c11; have q_ : ((0 : Int32)).toInt = 0 := rfl; omega)
          have g5_ : own_C [x0, x1, x2, x3, x4, x5] 1 = true := decide_eq_true c12
          have g6_ : own_N [x0, x1, x2, x3, x4, x5] 0 = false := decide_eq_false c13
          refine Or.inr ⟨?_, rfl, rfl⟩
          rw [own_A_3, g1_, g2_, g3_, g4_, g5_, g6_]
          first | done | rfl
        refine W_iconst B (hb hby d3_60) (pc' := 61) rfl (z := (1 : Int32)) (by decide) ?_
        refine W_goto B (hb hby d3_61) (by decide) (pc' := 65) (by decide) ?_
        refine W_retN B hret (by simp) (hb hby d3_65) (by decide) ?_
        have g1_ : decide (fr + 2 ≤ 3) = true := decide_eq_true (by have g_ := onltI c8; have q_ : ((1 : Int32)).toInt = 1 := rfl; omega)
        have g2_ : own_N [x0, x1, x2, x3, x4, x5] 2 = true := decide_eq_true c9
        have g3_ : own_N [x0, x1, x2, x3, x4, x5] 1 = false := decide_eq_false c10
        have g4_ : decide (fr + 3 ≤ 3) = true := decide_eq_true (by have g_ := onltI c11; have q_ : ((0 : Int32)).toInt = 0 := rfl; omega)
        have g5_ : own_C [x0, x1, x2, x3, x4, x5] 1 = true := decide_eq_true c12
        have g6_ : own_N [x0, x1, x2, x3, x4, x5] 0 = true := decide_eq_true c13
        refine Or.inl ⟨?_, rfl, rfl⟩
        rw [own_A_3, g1_, g2_, g3_, g4_, g5_, g6_]
        first | done | rfl
      refine W_iconst B (hb hby d3_31) (pc' := 32) rfl (z := (1 : Int32)) (by decide) ?_
      refine W_retN B hret (by simp) (hb hby d3_32) (by decide) ?_
      have g1_ : decide (fr + 2 ≤ 3) = true := decide_eq_true (by have g_ := onltI c8; have q_ : ((1 : Int32)).toInt = 1 := rfl; omega)
      have g2_ : own_N [x0, x1, x2, x3, x4, x5] 2 = true := decide_eq_true c9
      have g3_ : own_N [x0, x1, x2, x3, x4, x5] 1 = true := decide_eq_true c10
      refine Or.inl ⟨?_, rfl, rfl⟩
      rw [own_A_3, g1_, g2_, g3_]
      first | done | rfl
    refine W_iconst B (hb hby d3_19) (pc' := 20) rfl (z := (0 : Int32)) (by decide) ?_
    refine W_retN B hret (by simp) (hb hby d3_20) (by decide) ?_
    have g1_ : decide (fr + 2 ≤ 3) = true := decide_eq_true (by have g_ := onltI c8; have q_ : ((1 : Int32)).toInt = 1 := rfl; omega)
    have g2_ : own_N [x0, x1, x2, x3, x4, x5] 2 = false := decide_eq_false c9
    refine Or.inr ⟨?_, rfl, rfl⟩
    rw [own_A_3, g1_, g2_]
    first | done | rfl
  refine W_iconst B (hb hby d3_7) (pc' := 8) rfl (z := (0 : Int32)) (by decide) ?_
  refine W_retN B hret (by simp) (hb hby d3_8) (by decide) ?_
  have g1_ : decide (fr + 2 ≤ 3) = false := decide_eq_false (by have g_ := oltI c8; have q_ : ((1 : Int32)).toInt = 1 := rfl; omega)
  refine Or.inr ⟨?_, rfl, rfl⟩
  rw [own_A_3, g1_]
  first | done | rfl
theorem ef_rm3_4 (m : MethodId) (x0 : Addr) (x1 : Int32) : entryFrame m #[(.ref x0), (.int x1), (.int (4 : Int32))] 3 = mkF m 0 #[.val (.ref x0), .val (.int x1), .val (.int (4 : Int32))] [] := by first | (simp [entryFrame, mkF, argsToLocals, Value.category]; done) | rfl
set_option maxRecDepth 65536 in
set_option maxHeartbeats 40000000 in
theorem rm3_4 (l : Launch) (Z : State) (a0 : Array Value) (hw : ∀ d ∈ tables_1, d.before a0 Z = true) (h0 : Heap) {lo : Nat} (a1 : Addr) (f1 : Int32) (x0 : Int32) (x1 : Int32) (x2 : Int32) (x3 : Int32) (x4 : Int32) (x5 : Int32) (fr : Nat) (ds : oDs) (hf : f1.toInt = fr) :
    oMet l Z h0 lo (⟨"com/example/hash_for_once/hashforonce/api/RequestHeadEndPinLaw", "emptyLineEndsAt", "([BII)Z"⟩ : MethodName) method_4_code 3 (some .boolean) [] ({ frames := 0, cells := 0, slots := 0, locals := 0 } : Room) #[(.ref a1), (.int f1), (.int (4 : Int32))] ((a1, oA .byte [(.int x0), (.int x1), (.int x2), (.int x3), (.int x4), (.int x5)]) :: ds) (fun (v : Option Value) (d : oDs) => ((own_A (own_N [x0, x1, x2, x3, x4, x5]) (own_C [x0, x1, x2, x3, x4, x5]) fr 4 = true) ∧ v = some (.int (1 : Int32)) ∧ ((a1, oA .byte [(.int x0), (.int x1), (.int x2), (.int x3), (.int x4), (.int x5)]) :: ds) = d) ∨ ((own_A (own_N [x0, x1, x2, x3, x4, x5]) (own_C [x0, x1, x2, x3, x4, x5]) fr 4 = false) ∧ v = some (.int (0 : Int32)) ∧ ((a1, oA .byte [(.int x0), (.int x1), (.int x2), (.int x3), (.int x4), (.int x5)]) :: ds) = d)) := by
  refine oMet.of_body (plainFor_of_name pn_0) ?_
  intro p e s m below meth c T B hby hml hown hnm hret
  refine W_entry (ef_rm3_4 m a1 f1) ?_
  refine W_iloadN B (hb hby d3_0) (pc' := 1) rfl rfl ?_
  refine W_iconst B (hb hby d3_1) (pc' := 2) rfl (z := (2 : Int32)) (by decide) ?_
  refine W_isub B (hb hby d3_2) (pc' := 3) rfl (z := (2 : Int32)) (by decide) ?_
  refine W_iloadN B (hb hby d3_3) (pc' := 4) rfl rfl ?_
  refine W_icmp_ge B (hb hby d3_4) (by decide) (pt := 9) (by decide) (pc' := 7) rfl (fun (c14 : ¬ (2 : Int32) < f1) => ?_) (fun (c14 : (2 : Int32) < f1) => ?_)
  · refine W_aloadN B (hb hby d3_9) (pc' := 10) rfl rfl rfl ?_
    refine W_iloadN B (hb hby d3_10) (pc' := 11) rfl rfl ?_
    refine W_iconst B (hb hby d3_11) (pc' := 12) rfl (z := (1 : Int32)) (by decide) ?_
    refine W_isub B (hb hby d3_12) (pc' := 13) rfl (z := (3 : Int32)) (by decide) ?_
    refine W_baload B (hb hby d3_13) (pc' := 14) rfl (i := 0) rfl (by decide) (v := (.int x3)) rfl ?_
    refine W_bipush B (hb hby d3_14) (pc' := 16) rfl (z := (10 : Int32)) (by decide) ?_
    refine W_icmp_eq B (hb hby d3_16) (by decide) (pt := 21) (by decide) (pc' := 19) rfl (fun (c15 : x3 = (10 : Int32)) => ?_) (fun (c15 : ¬ x3 = (10 : Int32)) => ?_)
    · refine W_aloadN B (hb hby d3_21) (pc' := 22) rfl rfl rfl ?_
      refine W_iloadN B (hb hby d3_22) (pc' := 23) rfl rfl ?_
      refine W_iconst B (hb hby d3_23) (pc' := 24) rfl (z := (2 : Int32)) (by decide) ?_
      refine W_isub B (hb hby d3_24) (pc' := 25) rfl (z := (2 : Int32)) (by decide) ?_
      refine W_baload B (hb hby d3_25) (pc' := 26) rfl (i := 0) rfl (by decide) (v := (.int x2)) rfl ?_
      refine W_bipush B (hb hby d3_26) (pc' := 28) rfl (z := (10 : Int32)) (by decide) ?_
      refine W_icmp_ne B (hb hby d3_28) (by decide) (pt := 33) (by decide) (pc' := 31) rfl (fun (c16 : ¬ x2 = (10 : Int32)) => ?_) (fun (c16 : x2 = (10 : Int32)) => ?_)
      · refine W_iloadN B (hb hby d3_33) (pc' := 34) rfl rfl ?_
        refine W_iconst B (hb hby d3_34) (pc' := 35) rfl (z := (3 : Int32)) (by decide) ?_
        refine W_isub B (hb hby d3_35) (pc' := 36) rfl (z := (1 : Int32)) (by decide) ?_
        refine W_iloadN B (hb hby d3_36) (pc' := 37) rfl rfl ?_
        refine W_icmp_lt B (hb hby d3_37) (by decide) (pt := 64) (by decide) (pc' := 40) rfl (fun (c17 : (1 : Int32) < f1) => ?_) (fun (c17 : ¬ (1 : Int32) < f1) => ?_)
        · refine W_iconst B (hb hby d3_64) (pc' := 65) rfl (z := (0 : Int32)) (by decide) ?_
          refine W_retN B hret (by simp) (hb hby d3_65) (by decide) ?_
          have g1_ : decide (fr + 2 ≤ 4) = true := decide_eq_true (by have g_ := onltI c14; have q_ : ((2 : Int32)).toInt = 2 := rfl; omega)
          have g2_ : own_N [x0, x1, x2, x3, x4, x5] 3 = true := decide_eq_true c15
          have g3_ : own_N [x0, x1, x2, x3, x4, x5] 2 = false := decide_eq_false c16
          have g4_ : decide (fr + 3 ≤ 4) = false := decide_eq_false (by have g_ := oltI c17; have q_ : ((1 : Int32)).toInt = 1 := rfl; omega)
          refine Or.inr ⟨?_, rfl, rfl⟩
          rw [own_A_4, g1_, g2_, g3_, g4_]
          first | done | rfl
        refine W_aloadN B (hb hby d3_40) (pc' := 41) rfl rfl rfl ?_
        refine W_iloadN B (hb hby d3_41) (pc' := 42) rfl rfl ?_
        refine W_iconst B (hb hby d3_42) (pc' := 43) rfl (z := (2 : Int32)) (by decide) ?_
        refine W_isub B (hb hby d3_43) (pc' := 44) rfl (z := (2 : Int32)) (by decide) ?_
        refine W_baload B (hb hby d3_44) (pc' := 45) rfl (i := 0) rfl (by decide) (v := (.int x2)) rfl ?_
        refine W_bipush B (hb hby d3_45) (pc' := 47) rfl (z := (13 : Int32)) (by decide) ?_
        refine W_icmp_ne B (hb hby d3_47) (by decide) (pt := 64) (by decide) (pc' := 50) rfl (fun (c18 : ¬ x2 = (13 : Int32)) => ?_) (fun (c18 : x2 = (13 : Int32)) => ?_)
        · refine W_iconst B (hb hby d3_64) (pc' := 65) rfl (z := (0 : Int32)) (by decide) ?_
          refine W_retN B hret (by simp) (hb hby d3_65) (by decide) ?_
          have g1_ : decide (fr + 2 ≤ 4) = true := decide_eq_true (by have g_ := onltI c14; have q_ : ((2 : Int32)).toInt = 2 := rfl; omega)
          have g2_ : own_N [x0, x1, x2, x3, x4, x5] 3 = true := decide_eq_true c15
          have g3_ : own_N [x0, x1, x2, x3, x4, x5] 2 = false := decide_eq_false c16
          have g4_ : decide (fr + 3 ≤ 4) = true := decide_eq_true (by have g_ := onltI c17; have q_ : ((1 : Int32)).toInt = 1 := rfl; omega)
          have g5_ : own_C [x0, x1, x2, x3, x4, x5] 2 = false := decide_eq_false c18
          refine Or.inr ⟨?_, rfl, rfl⟩
          rw [own_A_4, g1_, g2_, g3_, g4_, g5_]
          first | done | rfl
        refine W_aloadN B (hb hby d3_50) (pc' := 51) rfl rfl rfl ?_
        refine W_iloadN B (hb hby d3_51) (pc' := 52) rfl rfl ?_
        refine W_iconst B (hb hby d3_52) (pc' := 53) rfl (z := (3 : Int32)) (by decide) ?_
        refine W_isub B (hb hby d3_53) (pc' := 54) rfl (z := (1 : Int32)) (by decide) ?_
        refine W_baload B (hb hby d3_54) (pc' := 55) rfl (i := 0) rfl (by decide) (v := (.int x1)) rfl ?_
        refine W_bipush B (hb hby d3_55) (pc' := 57) rfl (z := (10 : Int32)) (by decide) ?_
        refine W_icmp_ne B (hb hby d3_57) (by decide) (pt := 64) (by decide) (pc' := 60) rfl (fun (c19 : ¬ x1 = (10 : Int32)) => ?_) (fun (c19 : x1 = (10 : Int32)) => ?_)
        · refine W_iconst B (hb hby d3_64) (pc' := 65) rfl (z := (0 : Int32)) (by decide) ?_
          refine W_retN B hret (by simp) (hb hby d3_65) (by decide) ?_
          have g1_ : decide (fr + 2 ≤ 4) = true := decide_eq_true (by have g_ := onltI c14; have q_ : ((2 : Int32)).toInt = 2 := rfl; omega)
          have g2_ : own_N [x0, x1, x2, x3, x4, x5] 3 = true := decide_eq_true c15
          have g3_ : own_N [x0, x1, x2, x3, x4, x5] 2 = false := decide_eq_false c16
          have g4_ : decide (fr + 3 ≤ 4) = true := decide_eq_true (by have g_ := onltI c17; have q_ : ((1 : Int32)).toInt = 1 := rfl; omega)
          have g5_ : own_C [x0, x1, x2, x3, x4, x5] 2 = true := decide_eq_true c18
          have g6_ : own_N [x0, x1, x2, x3, x4, x5] 1 = false := decide_eq_false c19
          refine Or.inr ⟨?_, rfl, rfl⟩
          rw [own_A_4, g1_, g2_, g3_, g4_, g5_, g6_]
          first | done | rfl
        refine W_iconst B (hb hby d3_60) (pc' := 61) rfl (z := (1 : Int32)) (by decide) ?_
        refine W_goto B (hb hby d3_61) (by decide) (pc' := 65) (by decide) ?_
        refine W_retN B hret (by simp) (hb hby d3_65) (by decide) ?_
        have g1_ : decide (fr + 2 ≤ 4) = true := decide_eq_true (by have g_ := onltI c14; have q_ : ((2 : Int32)).toInt = 2 := rfl; omega)
        have g2_ : own_N [x0, x1, x2, x3, x4, x5] 3 = true := decide_eq_true c15
        have g3_ : own_N [x0, x1, x2, x3, x4, x5] 2 = false := decide_eq_false c16
        have g4_ : decide (fr + 3 ≤ 4) = true := decide_eq_true (by have g_ := onltI c17; have q_ : ((1 : Int32)).toInt = 1 := rfl; omega)
        have g5_ : own_C [x0, x1, x2, x3, x4, x5] 2 = true := decide_eq_true c18
        have g6_ : own_N [x0, x1, x2, x3, x4, x5] 1 = true := decide_eq_true c19
        refine Or.inl ⟨?_, rfl, rfl⟩
        rw [own_A_4, g1_, g2_, g3_, g4_, g5_, g6_]
        first | done | rfl
      refine W_iconst B (hb hby d3_31) (pc' := 32) rfl (z := (1 : Int32)) (by decide) ?_
      refine W_retN B hret (by simp) (hb hby d3_32) (by decide) ?_
      have g1_ : decide (fr + 2 ≤ 4) = true := decide_eq_true (by have g_ := onltI c14; have q_ : ((2 : Int32)).toInt = 2 := rfl; omega)
      have g2_ : own_N [x0, x1, x2, x3, x4, x5] 3 = true := decide_eq_true c15
      have g3_ : own_N [x0, x1, x2, x3, x4, x5] 2 = true := decide_eq_true c16
      refine Or.inl ⟨?_, rfl, rfl⟩
      rw [own_A_4, g1_, g2_, g3_]
      first | done | rfl
    refine W_iconst B (hb hby d3_19) (pc' := 20) rfl (z := (0 : Int32)) (by decide) ?_
    refine W_retN B hret (by simp) (hb hby d3_20) (by decide) ?_
    have g1_ : decide (fr + 2 ≤ 4) = true := decide_eq_true (by have g_ := onltI c14; have q_ : ((2 : Int32)).toInt = 2 := rfl; omega)
    have g2_ : own_N [x0, x1, x2, x3, x4, x5] 3 = false := decide_eq_false c15
    refine Or.inr ⟨?_, rfl, rfl⟩
    rw [own_A_4, g1_, g2_]
    first | done | rfl
  refine W_iconst B (hb hby d3_7) (pc' := 8) rfl (z := (0 : Int32)) (by decide) ?_
  refine W_retN B hret (by simp) (hb hby d3_8) (by decide) ?_
  have g1_ : decide (fr + 2 ≤ 4) = false := decide_eq_false (by have g_ := oltI c14; have q_ : ((2 : Int32)).toInt = 2 := rfl; omega)
  refine Or.inr ⟨?_, rfl, rfl⟩
  rw [own_A_4, g1_]
  first | done | rfl
theorem ef_rm3_5 (m : MethodId) (x0 : Addr) (x1 : Int32) : entryFrame m #[(.ref x0), (.int x1), (.int (5 : Int32))] 3 = mkF m 0 #[.val (.ref x0), .val (.int x1), .val (.int (5 : Int32))] [] := by first | (simp [entryFrame, mkF, argsToLocals, Value.category]; done) | rfl
set_option maxRecDepth 65536 in
set_option maxHeartbeats 40000000 in
theorem rm3_5 (l : Launch) (Z : State) (a0 : Array Value) (hw : ∀ d ∈ tables_1, d.before a0 Z = true) (h0 : Heap) {lo : Nat} (a1 : Addr) (f1 : Int32) (x0 : Int32) (x1 : Int32) (x2 : Int32) (x3 : Int32) (x4 : Int32) (x5 : Int32) (fr : Nat) (ds : oDs) (hf : f1.toInt = fr) :
    oMet l Z h0 lo (⟨"com/example/hash_for_once/hashforonce/api/RequestHeadEndPinLaw", "emptyLineEndsAt", "([BII)Z"⟩ : MethodName) method_4_code 3 (some .boolean) [] ({ frames := 0, cells := 0, slots := 0, locals := 0 } : Room) #[(.ref a1), (.int f1), (.int (5 : Int32))] ((a1, oA .byte [(.int x0), (.int x1), (.int x2), (.int x3), (.int x4), (.int x5)]) :: ds) (fun (v : Option Value) (d : oDs) => ((own_A (own_N [x0, x1, x2, x3, x4, x5]) (own_C [x0, x1, x2, x3, x4, x5]) fr 5 = true) ∧ v = some (.int (1 : Int32)) ∧ ((a1, oA .byte [(.int x0), (.int x1), (.int x2), (.int x3), (.int x4), (.int x5)]) :: ds) = d) ∨ ((own_A (own_N [x0, x1, x2, x3, x4, x5]) (own_C [x0, x1, x2, x3, x4, x5]) fr 5 = false) ∧ v = some (.int (0 : Int32)) ∧ ((a1, oA .byte [(.int x0), (.int x1), (.int x2), (.int x3), (.int x4), (.int x5)]) :: ds) = d)) := by
  refine oMet.of_body (plainFor_of_name pn_0) ?_
  intro p e s m below meth c T B hby hml hown hnm hret
  refine W_entry (ef_rm3_5 m a1 f1) ?_
  refine W_iloadN B (hb hby d3_0) (pc' := 1) rfl rfl ?_
  refine W_iconst B (hb hby d3_1) (pc' := 2) rfl (z := (2 : Int32)) (by decide) ?_
  refine W_isub B (hb hby d3_2) (pc' := 3) rfl (z := (3 : Int32)) (by decide) ?_
  refine W_iloadN B (hb hby d3_3) (pc' := 4) rfl rfl ?_
  refine W_icmp_ge B (hb hby d3_4) (by decide) (pt := 9) (by decide) (pc' := 7) rfl (fun (c20 : ¬ (3 : Int32) < f1) => ?_) (fun (c20 : (3 : Int32) < f1) => ?_)
  · refine W_aloadN B (hb hby d3_9) (pc' := 10) rfl rfl rfl ?_
    refine W_iloadN B (hb hby d3_10) (pc' := 11) rfl rfl ?_
    refine W_iconst B (hb hby d3_11) (pc' := 12) rfl (z := (1 : Int32)) (by decide) ?_
    refine W_isub B (hb hby d3_12) (pc' := 13) rfl (z := (4 : Int32)) (by decide) ?_
    refine W_baload B (hb hby d3_13) (pc' := 14) rfl (i := 0) rfl (by decide) (v := (.int x4)) rfl ?_
    refine W_bipush B (hb hby d3_14) (pc' := 16) rfl (z := (10 : Int32)) (by decide) ?_
    refine W_icmp_eq B (hb hby d3_16) (by decide) (pt := 21) (by decide) (pc' := 19) rfl (fun (c21 : x4 = (10 : Int32)) => ?_) (fun (c21 : ¬ x4 = (10 : Int32)) => ?_)
    · refine W_aloadN B (hb hby d3_21) (pc' := 22) rfl rfl rfl ?_
      refine W_iloadN B (hb hby d3_22) (pc' := 23) rfl rfl ?_
      refine W_iconst B (hb hby d3_23) (pc' := 24) rfl (z := (2 : Int32)) (by decide) ?_
      refine W_isub B (hb hby d3_24) (pc' := 25) rfl (z := (3 : Int32)) (by decide) ?_
      refine W_baload B (hb hby d3_25) (pc' := 26) rfl (i := 0) rfl (by decide) (v := (.int x3)) rfl ?_
      refine W_bipush B (hb hby d3_26) (pc' := 28) rfl (z := (10 : Int32)) (by decide) ?_
      refine W_icmp_ne B (hb hby d3_28) (by decide) (pt := 33) (by decide) (pc' := 31) rfl (fun (c22 : ¬ x3 = (10 : Int32)) => ?_) (fun (c22 : x3 = (10 : Int32)) => ?_)
      · refine W_iloadN B (hb hby d3_33) (pc' := 34) rfl rfl ?_
        refine W_iconst B (hb hby d3_34) (pc' := 35) rfl (z := (3 : Int32)) (by decide) ?_
        refine W_isub B (hb hby d3_35) (pc' := 36) rfl (z := (2 : Int32)) (by decide) ?_
        refine W_iloadN B (hb hby d3_36) (pc' := 37) rfl rfl ?_
        refine W_icmp_lt B (hb hby d3_37) (by decide) (pt := 64) (by decide) (pc' := 40) rfl (fun (c23 : (2 : Int32) < f1) => ?_) (fun (c23 : ¬ (2 : Int32) < f1) => ?_)
        · refine W_iconst B (hb hby d3_64) (pc' := 65) rfl (z := (0 : Int32)) (by decide) ?_
          refine W_retN B hret (by simp) (hb hby d3_65) (by decide) ?_
          have g1_ : decide (fr + 2 ≤ 5) = true := decide_eq_true (by have g_ := onltI c20; have q_ : ((3 : Int32)).toInt = 3 := rfl; omega)
          have g2_ : own_N [x0, x1, x2, x3, x4, x5] 4 = true := decide_eq_true c21
          have g3_ : own_N [x0, x1, x2, x3, x4, x5] 3 = false := decide_eq_false c22
          have g4_ : decide (fr + 3 ≤ 5) = false := decide_eq_false (by have g_ := oltI c23; have q_ : ((2 : Int32)).toInt = 2 := rfl; omega)
          refine Or.inr ⟨?_, rfl, rfl⟩
          rw [own_A_5, g1_, g2_, g3_, g4_]
          first | done | rfl
        refine W_aloadN B (hb hby d3_40) (pc' := 41) rfl rfl rfl ?_
        refine W_iloadN B (hb hby d3_41) (pc' := 42) rfl rfl ?_
        refine W_iconst B (hb hby d3_42) (pc' := 43) rfl (z := (2 : Int32)) (by decide) ?_
        refine W_isub B (hb hby d3_43) (pc' := 44) rfl (z := (3 : Int32)) (by decide) ?_
        refine W_baload B (hb hby d3_44) (pc' := 45) rfl (i := 0) rfl (by decide) (v := (.int x3)) rfl ?_
        refine W_bipush B (hb hby d3_45) (pc' := 47) rfl (z := (13 : Int32)) (by decide) ?_
        refine W_icmp_ne B (hb hby d3_47) (by decide) (pt := 64) (by decide) (pc' := 50) rfl (fun (c24 : ¬ x3 = (13 : Int32)) => ?_) (fun (c24 : x3 = (13 : Int32)) => ?_)
        · refine W_iconst B (hb hby d3_64) (pc' := 65) rfl (z := (0 : Int32)) (by decide) ?_
          refine W_retN B hret (by simp) (hb hby d3_65) (by decide) ?_
          have g1_ : decide (fr + 2 ≤ 5) = true := decide_eq_true (by have g_ := onltI c20; have q_ : ((3 : Int32)).toInt = 3 := rfl; omega)
          have g2_ : own_N [x0, x1, x2, x3, x4, x5] 4 = true := decide_eq_true c21
          have g3_ : own_N [x0, x1, x2, x3, x4, x5] 3 = false := decide_eq_false c22
          have g4_ : decide (fr + 3 ≤ 5) = true := decide_eq_true (by have g_ := onltI c23; have q_ : ((2 : Int32)).toInt = 2 := rfl; omega)
          have g5_ : own_C [x0, x1, x2, x3, x4, x5] 3 = false := decide_eq_false c24
          refine Or.inr ⟨?_, rfl, rfl⟩
          rw [own_A_5, g1_, g2_, g3_, g4_, g5_]
          first | done | rfl
        refine W_aloadN B (hb hby d3_50) (pc' := 51) rfl rfl rfl ?_
        refine W_iloadN B (hb hby d3_51) (pc' := 52) rfl rfl ?_
        refine W_iconst B (hb hby d3_52) (pc' := 53) rfl (z := (3 : Int32)) (by decide) ?_
        refine W_isub B (hb hby d3_53) (pc' := 54) rfl (z := (2 : Int32)) (by decide) ?_
        refine W_baload B (hb hby d3_54) (pc' := 55) rfl (i := 0) rfl (by decide) (v := (.int x2)) rfl ?_
        refine W_bipush B (hb hby d3_55) (pc' := 57) rfl (z := (10 : Int32)) (by decide) ?_
        refine W_icmp_ne B (hb hby d3_57) (by decide) (pt := 64) (by decide) (pc' := 60) rfl (fun (c25 : ¬ x2 = (10 : Int32)) => ?_) (fun (c25 : x2 = (10 : Int32)) => ?_)
        · refine W_iconst B (hb hby d3_64) (pc' := 65) rfl (z := (0 : Int32)) (by decide) ?_
          refine W_retN B hret (by simp) (hb hby d3_65) (by decide) ?_
          have g1_ : decide (fr + 2 ≤ 5) = true := decide_eq_true (by have g_ := onltI c20; have q_ : ((3 : Int32)).toInt = 3 := rfl; omega)
          have g2_ : own_N [x0, x1, x2, x3, x4, x5] 4 = true := decide_eq_true c21
          have g3_ : own_N [x0, x1, x2, x3, x4, x5] 3 = false := decide_eq_false c22
          have g4_ : decide (fr + 3 ≤ 5) = true := decide_eq_true (by have g_ := onltI c23; have q_ : ((2 : Int32)).toInt = 2 := rfl; omega)
          have g5_ : own_C [x0, x1, x2, x3, x4, x5] 3 = true := decide_eq_true c24
          have g6_ : own_N [x0, x1, x2, x3, x4, x5] 2 = false := decide_eq_false c25
          refine Or.inr ⟨?_, rfl, rfl⟩
          rw [own_A_5, g1_, g2_, g3_, g4_, g5_, g6_]
          first | done | rfl
        refine W_iconst B (hb hby d3_60) (pc' := 61) rfl (z := (1 : Int32)) (by decide) ?_
        refine W_goto B (hb hby d3_61) (by decide) (pc' := 65) (by decide) ?_
        refine W_retN B hret (by simp) (hb hby d3_65) (by decide) ?_
        have g1_ : decide (fr + 2 ≤ 5) = true := decide_eq_true (by have g_ := onltI c20; have q_ : ((3 : Int32)).toInt = 3 := rfl; omega)
        have g2_ : own_N [x0, x1, x2, x3, x4, x5] 4 = true := decide_eq_true c21
        have g3_ : own_N [x0, x1, x2, x3, x4, x5] 3 = false := decide_eq_false c22
        have g4_ : decide (fr + 3 ≤ 5) = true := decide_eq_true (by have g_ := onltI c23; have q_ : ((2 : Int32)).toInt = 2 := rfl; omega)
        have g5_ : own_C [x0, x1, x2, x3, x4, x5] 3 = true := decide_eq_true c24
        have g6_ : own_N [x0, x1, x2, x3, x4, x5] 2 = true := decide_eq_true c25
        refine Or.inl ⟨?_, rfl, rfl⟩
        rw [own_A_5, g1_, g2_, g3_, g4_, g5_, g6_]
        first | done | rfl
      refine W_iconst B (hb hby d3_31) (pc' := 32) rfl (z := (1 : Int32)) (by decide) ?_
      refine W_retN B hret (by simp) (hb hby d3_32) (by decide) ?_
      have g1_ : decide (fr + 2 ≤ 5) = true := decide_eq_true (by have g_ := onltI c20; have q_ : ((3 : Int32)).toInt = 3 := rfl; omega)
      have g2_ : own_N [x0, x1, x2, x3, x4, x5] 4 = true := decide_eq_true c21
      have g3_ : own_N [x0, x1, x2, x3, x4, x5] 3 = true := decide_eq_true c22
      refine Or.inl ⟨?_, rfl, rfl⟩
      rw [own_A_5, g1_, g2_, g3_]
      first | done | rfl
    refine W_iconst B (hb hby d3_19) (pc' := 20) rfl (z := (0 : Int32)) (by decide) ?_
    refine W_retN B hret (by simp) (hb hby d3_20) (by decide) ?_
    have g1_ : decide (fr + 2 ≤ 5) = true := decide_eq_true (by have g_ := onltI c20; have q_ : ((3 : Int32)).toInt = 3 := rfl; omega)
    have g2_ : own_N [x0, x1, x2, x3, x4, x5] 4 = false := decide_eq_false c21
    refine Or.inr ⟨?_, rfl, rfl⟩
    rw [own_A_5, g1_, g2_]
    first | done | rfl
  refine W_iconst B (hb hby d3_7) (pc' := 8) rfl (z := (0 : Int32)) (by decide) ?_
  refine W_retN B hret (by simp) (hb hby d3_8) (by decide) ?_
  have g1_ : decide (fr + 2 ≤ 5) = false := decide_eq_false (by have g_ := oltI c20; have q_ : ((3 : Int32)).toInt = 3 := rfl; omega)
  refine Or.inr ⟨?_, rfl, rfl⟩
  rw [own_A_5, g1_]
  first | done | rfl
theorem ef_rm3_6 (m : MethodId) (x0 : Addr) (x1 : Int32) : entryFrame m #[(.ref x0), (.int x1), (.int (6 : Int32))] 3 = mkF m 0 #[.val (.ref x0), .val (.int x1), .val (.int (6 : Int32))] [] := by first | (simp [entryFrame, mkF, argsToLocals, Value.category]; done) | rfl
set_option maxRecDepth 65536 in
set_option maxHeartbeats 40000000 in
theorem rm3_6 (l : Launch) (Z : State) (a0 : Array Value) (hw : ∀ d ∈ tables_1, d.before a0 Z = true) (h0 : Heap) {lo : Nat} (a1 : Addr) (f1 : Int32) (x0 : Int32) (x1 : Int32) (x2 : Int32) (x3 : Int32) (x4 : Int32) (x5 : Int32) (fr : Nat) (ds : oDs) (hf : f1.toInt = fr) :
    oMet l Z h0 lo (⟨"com/example/hash_for_once/hashforonce/api/RequestHeadEndPinLaw", "emptyLineEndsAt", "([BII)Z"⟩ : MethodName) method_4_code 3 (some .boolean) [] ({ frames := 0, cells := 0, slots := 0, locals := 0 } : Room) #[(.ref a1), (.int f1), (.int (6 : Int32))] ((a1, oA .byte [(.int x0), (.int x1), (.int x2), (.int x3), (.int x4), (.int x5)]) :: ds) (fun (v : Option Value) (d : oDs) => ((own_A (own_N [x0, x1, x2, x3, x4, x5]) (own_C [x0, x1, x2, x3, x4, x5]) fr 6 = true) ∧ v = some (.int (1 : Int32)) ∧ ((a1, oA .byte [(.int x0), (.int x1), (.int x2), (.int x3), (.int x4), (.int x5)]) :: ds) = d) ∨ ((own_A (own_N [x0, x1, x2, x3, x4, x5]) (own_C [x0, x1, x2, x3, x4, x5]) fr 6 = false) ∧ v = some (.int (0 : Int32)) ∧ ((a1, oA .byte [(.int x0), (.int x1), (.int x2), (.int x3), (.int x4), (.int x5)]) :: ds) = d)) := by
  refine oMet.of_body (plainFor_of_name pn_0) ?_
  intro p e s m below meth c T B hby hml hown hnm hret
  refine W_entry (ef_rm3_6 m a1 f1) ?_
  refine W_iloadN B (hb hby d3_0) (pc' := 1) rfl rfl ?_
  refine W_iconst B (hb hby d3_1) (pc' := 2) rfl (z := (2 : Int32)) (by decide) ?_
  refine W_isub B (hb hby d3_2) (pc' := 3) rfl (z := (4 : Int32)) (by decide) ?_
  refine W_iloadN B (hb hby d3_3) (pc' := 4) rfl rfl ?_
  refine W_icmp_ge B (hb hby d3_4) (by decide) (pt := 9) (by decide) (pc' := 7) rfl (fun (c26 : ¬ (4 : Int32) < f1) => ?_) (fun (c26 : (4 : Int32) < f1) => ?_)
  · refine W_aloadN B (hb hby d3_9) (pc' := 10) rfl rfl rfl ?_
    refine W_iloadN B (hb hby d3_10) (pc' := 11) rfl rfl ?_
    refine W_iconst B (hb hby d3_11) (pc' := 12) rfl (z := (1 : Int32)) (by decide) ?_
    refine W_isub B (hb hby d3_12) (pc' := 13) rfl (z := (5 : Int32)) (by decide) ?_
    refine W_baload B (hb hby d3_13) (pc' := 14) rfl (i := 0) rfl (by decide) (v := (.int x5)) rfl ?_
    refine W_bipush B (hb hby d3_14) (pc' := 16) rfl (z := (10 : Int32)) (by decide) ?_
    refine W_icmp_eq B (hb hby d3_16) (by decide) (pt := 21) (by decide) (pc' := 19) rfl (fun (c27 : x5 = (10 : Int32)) => ?_) (fun (c27 : ¬ x5 = (10 : Int32)) => ?_)
    · refine W_aloadN B (hb hby d3_21) (pc' := 22) rfl rfl rfl ?_
      refine W_iloadN B (hb hby d3_22) (pc' := 23) rfl rfl ?_
      refine W_iconst B (hb hby d3_23) (pc' := 24) rfl (z := (2 : Int32)) (by decide) ?_
      refine W_isub B (hb hby d3_24) (pc' := 25) rfl (z := (4 : Int32)) (by decide) ?_
      refine W_baload B (hb hby d3_25) (pc' := 26) rfl (i := 0) rfl (by decide) (v := (.int x4)) rfl ?_
      refine W_bipush B (hb hby d3_26) (pc' := 28) rfl (z := (10 : Int32)) (by decide) ?_
      refine W_icmp_ne B (hb hby d3_28) (by decide) (pt := 33) (by decide) (pc' := 31) rfl (fun (c28 : ¬ x4 = (10 : Int32)) => ?_) (fun (c28 : x4 = (10 : Int32)) => ?_)
      · refine W_iloadN B (hb hby d3_33) (pc' := 34) rfl rfl ?_
        refine W_iconst B (hb hby d3_34) (pc' := 35) rfl (z := (3 : Int32)) (by decide) ?_
        refine W_isub B (hb hby d3_35) (pc' := 36) rfl (z := (3 : Int32)) (by decide) ?_
        refine W_iloadN B (hb hby d3_36) (pc' := 37) rfl rfl ?_
        refine W_icmp_lt B (hb hby d3_37) (by decide) (pt := 64) (by decide) (pc' := 40) rfl (fun (c29 : (3 : Int32) < f1) => ?_) (fun (c29 : ¬ (3 : Int32) < f1) => ?_)
        · refine W_iconst B (hb hby d3_64) (pc' := 65) rfl (z := (0 : Int32)) (by decide) ?_
          refine W_retN B hret (by simp) (hb hby d3_65) (by decide) ?_
          have g1_ : decide (fr + 2 ≤ 6) = true := decide_eq_true (by have g_ := onltI c26; have q_ : ((4 : Int32)).toInt = 4 := rfl; omega)
          have g2_ : own_N [x0, x1, x2, x3, x4, x5] 5 = true := decide_eq_true c27
          have g3_ : own_N [x0, x1, x2, x3, x4, x5] 4 = false := decide_eq_false c28
          have g4_ : decide (fr + 3 ≤ 6) = false := decide_eq_false (by have g_ := oltI c29; have q_ : ((3 : Int32)).toInt = 3 := rfl; omega)
          refine Or.inr ⟨?_, rfl, rfl⟩
          rw [own_A_6, g1_, g2_, g3_, g4_]
          first | done | rfl
        refine W_aloadN B (hb hby d3_40) (pc' := 41) rfl rfl rfl ?_
        refine W_iloadN B (hb hby d3_41) (pc' := 42) rfl rfl ?_
        refine W_iconst B (hb hby d3_42) (pc' := 43) rfl (z := (2 : Int32)) (by decide) ?_
        refine W_isub B (hb hby d3_43) (pc' := 44) rfl (z := (4 : Int32)) (by decide) ?_
        refine W_baload B (hb hby d3_44) (pc' := 45) rfl (i := 0) rfl (by decide) (v := (.int x4)) rfl ?_
        refine W_bipush B (hb hby d3_45) (pc' := 47) rfl (z := (13 : Int32)) (by decide) ?_
        refine W_icmp_ne B (hb hby d3_47) (by decide) (pt := 64) (by decide) (pc' := 50) rfl (fun (c30 : ¬ x4 = (13 : Int32)) => ?_) (fun (c30 : x4 = (13 : Int32)) => ?_)
        · refine W_iconst B (hb hby d3_64) (pc' := 65) rfl (z := (0 : Int32)) (by decide) ?_
          refine W_retN B hret (by simp) (hb hby d3_65) (by decide) ?_
          have g1_ : decide (fr + 2 ≤ 6) = true := decide_eq_true (by have g_ := onltI c26; have q_ : ((4 : Int32)).toInt = 4 := rfl; omega)
          have g2_ : own_N [x0, x1, x2, x3, x4, x5] 5 = true := decide_eq_true c27
          have g3_ : own_N [x0, x1, x2, x3, x4, x5] 4 = false := decide_eq_false c28
          have g4_ : decide (fr + 3 ≤ 6) = true := decide_eq_true (by have g_ := onltI c29; have q_ : ((3 : Int32)).toInt = 3 := rfl; omega)
          have g5_ : own_C [x0, x1, x2, x3, x4, x5] 4 = false := decide_eq_false c30
          refine Or.inr ⟨?_, rfl, rfl⟩
          rw [own_A_6, g1_, g2_, g3_, g4_, g5_]
          first | done | rfl
        refine W_aloadN B (hb hby d3_50) (pc' := 51) rfl rfl rfl ?_
        refine W_iloadN B (hb hby d3_51) (pc' := 52) rfl rfl ?_
        refine W_iconst B (hb hby d3_52) (pc' := 53) rfl (z := (3 : Int32)) (by decide) ?_
        refine W_isub B (hb hby d3_53) (pc' := 54) rfl (z := (3 : Int32)) (by decide) ?_
        refine W_baload B (hb hby d3_54) (pc' := 55) rfl (i := 0) rfl (by decide) (v := (.int x3)) rfl ?_
        refine W_bipush B (hb hby d3_55) (pc' := 57) rfl (z := (10 : Int32)) (by decide) ?_
        refine W_icmp_ne B (hb hby d3_57) (by decide) (pt := 64) (by decide) (pc' := 60) rfl (fun (c31 : ¬ x3 = (10 : Int32)) => ?_) (fun (c31 : x3 = (10 : Int32)) => ?_)
        · refine W_iconst B (hb hby d3_64) (pc' := 65) rfl (z := (0 : Int32)) (by decide) ?_
          refine W_retN B hret (by simp) (hb hby d3_65) (by decide) ?_
          have g1_ : decide (fr + 2 ≤ 6) = true := decide_eq_true (by have g_ := onltI c26; have q_ : ((4 : Int32)).toInt = 4 := rfl; omega)
          have g2_ : own_N [x0, x1, x2, x3, x4, x5] 5 = true := decide_eq_true c27
          have g3_ : own_N [x0, x1, x2, x3, x4, x5] 4 = false := decide_eq_false c28
          have g4_ : decide (fr + 3 ≤ 6) = true := decide_eq_true (by have g_ := onltI c29; have q_ : ((3 : Int32)).toInt = 3 := rfl; omega)
          have g5_ : own_C [x0, x1, x2, x3, x4, x5] 4 = true := decide_eq_true c30
          have g6_ : own_N [x0, x1, x2, x3, x4, x5] 3 = false := decide_eq_false c31
          refine Or.inr ⟨?_, rfl, rfl⟩
          rw [own_A_6, g1_, g2_, g3_, g4_, g5_, g6_]
          first | done | rfl
        refine W_iconst B (hb hby d3_60) (pc' := 61) rfl (z := (1 : Int32)) (by decide) ?_
        refine W_goto B (hb hby d3_61) (by decide) (pc' := 65) (by decide) ?_
        refine W_retN B hret (by simp) (hb hby d3_65) (by decide) ?_
        have g1_ : decide (fr + 2 ≤ 6) = true := decide_eq_true (by have g_ := onltI c26; have q_ : ((4 : Int32)).toInt = 4 := rfl; omega)
        have g2_ : own_N [x0, x1, x2, x3, x4, x5] 5 = true := decide_eq_true c27
        have g3_ : own_N [x0, x1, x2, x3, x4, x5] 4 = false := decide_eq_false c28
        have g4_ : decide (fr + 3 ≤ 6) = true := decide_eq_true (by have g_ := onltI c29; have q_ : ((3 : Int32)).toInt = 3 := rfl; omega)
        have g5_ : own_C [x0, x1, x2, x3, x4, x5] 4 = true := decide_eq_true c30
        have g6_ : own_N [x0, x1, x2, x3, x4, x5] 3 = true := decide_eq_true c31
        refine Or.inl ⟨?_, rfl, rfl⟩
        rw [own_A_6, g1_, g2_, g3_, g4_, g5_, g6_]
        first | done | rfl
      refine W_iconst B (hb hby d3_31) (pc' := 32) rfl (z := (1 : Int32)) (by decide) ?_
      refine W_retN B hret (by simp) (hb hby d3_32) (by decide) ?_
      have g1_ : decide (fr + 2 ≤ 6) = true := decide_eq_true (by have g_ := onltI c26; have q_ : ((4 : Int32)).toInt = 4 := rfl; omega)
      have g2_ : own_N [x0, x1, x2, x3, x4, x5] 5 = true := decide_eq_true c27
      have g3_ : own_N [x0, x1, x2, x3, x4, x5] 4 = true := decide_eq_true c28
      refine Or.inl ⟨?_, rfl, rfl⟩
      rw [own_A_6, g1_, g2_, g3_]
      first | done | rfl
    refine W_iconst B (hb hby d3_19) (pc' := 20) rfl (z := (0 : Int32)) (by decide) ?_
    refine W_retN B hret (by simp) (hb hby d3_20) (by decide) ?_
    have g1_ : decide (fr + 2 ≤ 6) = true := decide_eq_true (by have g_ := onltI c26; have q_ : ((4 : Int32)).toInt = 4 := rfl; omega)
    have g2_ : own_N [x0, x1, x2, x3, x4, x5] 5 = false := decide_eq_false c27
    refine Or.inr ⟨?_, rfl, rfl⟩
    rw [own_A_6, g1_, g2_]
    first | done | rfl
  refine W_iconst B (hb hby d3_7) (pc' := 8) rfl (z := (0 : Int32)) (by decide) ?_
  refine W_retN B hret (by simp) (hb hby d3_8) (by decide) ?_
  have g1_ : decide (fr + 2 ≤ 6) = false := decide_eq_false (by have g_ := oltI c26; have q_ : ((4 : Int32)).toInt = 4 := rfl; omega)
  refine Or.inr ⟨?_, rfl, rfl⟩
  rw [own_A_6, g1_]
  first | done | rfl
theorem own_st {a : Addr} {f t i v : Int32} {s4_ : Slot} (h : s4_ = .unset ∨ ∃ k, s4_ = .val (.int k)) : storeLocals #[.val (.ref a), .val (.int f), .val (.int t), .val (.int i), s4_] 4 (.int v) = some #[.val (.ref a), .val (.int f), .val (.int t), .val (.int i), .val (.int v)] := by
  rcases h with rfl | ⟨k, rfl⟩ <;> rfl
theorem d2_2 : decode prog_5_method_2_code 2 = .ok (.iload_n 3, 1) := by decide +kernel
theorem d2_3 : decode prog_5_method_2_code 3 = .ok (.iload_n 2, 1) := by decide +kernel
theorem d2_4 : decode prog_5_method_2_code 4 = .ok (.if_icmp .ge 75, 3) := by decide +kernel
theorem d2_79 : decode prog_5_method_2_code 79 = .ok (.iconst (-1), 1) := by decide +kernel
theorem d2_80 : decode prog_5_method_2_code 80 = .ok (.ireturn, 1) := by decide +kernel
theorem d2_7 : decode prog_5_method_2_code 7 = .ok (.aload_n 0, 1) := by decide +kernel
theorem d2_8 : decode prog_5_method_2_code 8 = .ok (.iload_n 3, 1) := by decide +kernel
theorem d2_9 : decode prog_5_method_2_code 9 = .ok (.baload, 1) := by decide +kernel
theorem d2_10 : decode prog_5_method_2_code 10 = .ok (.bipush 10, 2) := by decide +kernel
theorem d2_12 : decode prog_5_method_2_code 12 = .ok (.if_icmp .ne 61, 3) := by decide +kernel
theorem d2_73 : decode prog_5_method_2_code 73 = .ok (.iinc 3 1, 3) := by decide +kernel
theorem d2_76 : decode prog_5_method_2_code 76 = .ok (.goto (-74), 3) := by decide +kernel
theorem d2_15 : decode prog_5_method_2_code 15 = .ok (.iload_n 3, 1) := by decide +kernel
theorem d2_16 : decode prog_5_method_2_code 16 = .ok (.iconst 1, 1) := by decide +kernel
theorem d2_17 : decode prog_5_method_2_code 17 = .ok (.iadd, 1) := by decide +kernel
theorem d2_18 : decode prog_5_method_2_code 18 = .ok (.istore 4, 2) := by decide +kernel
theorem d2_20 : decode prog_5_method_2_code 20 = .ok (.iload 4, 2) := by decide +kernel
theorem d2_22 : decode prog_5_method_2_code 22 = .ok (.iload_n 2, 1) := by decide +kernel
theorem d2_23 : decode prog_5_method_2_code 23 = .ok (.if_icmp .ge 17, 3) := by decide +kernel
theorem d2_40 : decode prog_5_method_2_code 40 = .ok (.iload 4, 2) := by decide +kernel
theorem d2_42 : decode prog_5_method_2_code 42 = .ok (.iconst 1, 1) := by decide +kernel
theorem d2_43 : decode prog_5_method_2_code 43 = .ok (.iadd, 1) := by decide +kernel
theorem d2_44 : decode prog_5_method_2_code 44 = .ok (.iload_n 2, 1) := by decide +kernel
theorem d2_45 : decode prog_5_method_2_code 45 = .ok (.if_icmp .ge 28, 3) := by decide +kernel
theorem d2_26 : decode prog_5_method_2_code 26 = .ok (.aload_n 0, 1) := by decide +kernel
theorem d2_27 : decode prog_5_method_2_code 27 = .ok (.iload 4, 2) := by decide +kernel
theorem d2_29 : decode prog_5_method_2_code 29 = .ok (.baload, 1) := by decide +kernel
theorem d2_30 : decode prog_5_method_2_code 30 = .ok (.bipush 10, 2) := by decide +kernel
theorem d2_32 : decode prog_5_method_2_code 32 = .ok (.if_icmp .ne 8, 3) := by decide +kernel
theorem d2_35 : decode prog_5_method_2_code 35 = .ok (.iload 4, 2) := by decide +kernel
theorem d2_37 : decode prog_5_method_2_code 37 = .ok (.iconst 1, 1) := by decide +kernel
theorem d2_38 : decode prog_5_method_2_code 38 = .ok (.iadd, 1) := by decide +kernel
theorem d2_39 : decode prog_5_method_2_code 39 = .ok (.ireturn, 1) := by decide +kernel
theorem d2_48 : decode prog_5_method_2_code 48 = .ok (.aload_n 0, 1) := by decide +kernel
theorem d2_49 : decode prog_5_method_2_code 49 = .ok (.iload 4, 2) := by decide +kernel
theorem d2_51 : decode prog_5_method_2_code 51 = .ok (.baload, 1) := by decide +kernel
theorem d2_52 : decode prog_5_method_2_code 52 = .ok (.bipush 13, 2) := by decide +kernel
theorem d2_54 : decode prog_5_method_2_code 54 = .ok (.if_icmp .ne 19, 3) := by decide +kernel
theorem d2_57 : decode prog_5_method_2_code 57 = .ok (.aload_n 0, 1) := by decide +kernel
theorem d2_58 : decode prog_5_method_2_code 58 = .ok (.iload 4, 2) := by decide +kernel
theorem d2_60 : decode prog_5_method_2_code 60 = .ok (.iconst 1, 1) := by decide +kernel
theorem d2_61 : decode prog_5_method_2_code 61 = .ok (.iadd, 1) := by decide +kernel
theorem d2_62 : decode prog_5_method_2_code 62 = .ok (.baload, 1) := by decide +kernel
theorem d2_63 : decode prog_5_method_2_code 63 = .ok (.bipush 10, 2) := by decide +kernel
theorem d2_65 : decode prog_5_method_2_code 65 = .ok (.if_icmp .ne 8, 3) := by decide +kernel
theorem d2_68 : decode prog_5_method_2_code 68 = .ok (.iload 4, 2) := by decide +kernel
theorem d2_70 : decode prog_5_method_2_code 70 = .ok (.iconst 2, 1) := by decide +kernel
theorem d2_71 : decode prog_5_method_2_code 71 = .ok (.iadd, 1) := by decide +kernel
theorem d2_72 : decode prog_5_method_2_code 72 = .ok (.ireturn, 1) := by decide +kernel
theorem d2_0 : decode prog_5_method_2_code 0 = .ok (.iload_n 1, 1) := by decide +kernel
theorem d2_1 : decode prog_5_method_2_code 1 = .ok (.istore_n 3, 1) := by decide +kernel
theorem ef_rm2 (m : MethodId) (x0 : Addr) (x1 : Int32) (x2 : Int32) : entryFrame m #[(.ref x0), (.int x1), (.int x2)] 5 = mkF m 0 #[.val (.ref x0), .val (.int x1), .val (.int x2), .unset, .unset] [] := by first | (simp [entryFrame, mkF, argsToLocals, Value.category]; done) | rfl
theorem pn_1 : plainName "com/example/hash_for_once/hashforonce/api/RequestHead" = true := by first | (simp [plainName, overriddenIn]; done) | decide +kernel
set_option maxRecDepth 65536 in
set_option maxHeartbeats 40000000 in
theorem rm2 (l : Launch) (Z : State) (a0 : Array Value) (hw : ∀ d ∈ tables_1, d.before a0 Z = true) (h0 : Heap) {lo : Nat} (a1 : Addr) (f1 : Int32) (t1 : Int32) (x0 : Int32) (x1 : Int32) (x2 : Int32) (x3 : Int32) (x4 : Int32) (x5 : Int32) (fr : Nat) (tn : Nat) (ds : oDs) (hf : f1.toInt = fr) (hfr : fr < 8) (ht : t1.toInt = tn) (htn : tn < 7) :
    oMet l Z h0 lo (⟨"com/example/hash_for_once/hashforonce/api/RequestHead", "end", "([BII)I"⟩ : MethodName) prog_5_method_2_code 5 (some .int) [] ({ frames := 0, cells := 0, slots := 0, locals := 0 } : Room) #[(.ref a1), (.int f1), (.int t1)] ((a1, oA .byte [(.int x0), (.int x1), (.int x2), (.int x3), (.int x4), (.int x5)]) :: ds) (fun (v : Option Value) (d : oDs) => (v = some (.int (Int32.ofInt (own_end (own_N [x0, x1, x2, x3, x4, x5]) (own_C [x0, x1, x2, x3, x4, x5]) tn fr))) ∧ ((a1, oA .byte [(.int x0), (.int x1), (.int x2), (.int x3), (.int x4), (.int x5)]) :: ds) = d)) := by
  refine oMet.of_body (plainFor_of_name pn_1) ?_
  intro p e s m below meth c T B hby hml hown hnm hret
  refine W_entry (ef_rm2 m a1 f1 t1) ?_
  refine oJoin B (fun s4_ : Slot => (s4_ = .unset ∨ ∃ k, s4_ = .val (.int k)) ∧ own_end (own_N [x0, x1, x2, x3, x4, x5]) (own_C [x0, x1, x2, x3, x4, x5]) tn fr = own_G (own_N [x0, x1, x2, x3, x4, x5]) (own_C [x0, x1, x2, x3, x4, x5]) tn 1 7) (fun s4_ => (mkF m 2 #[.val (.ref a1), .val (.int f1), .val (.int t1), .val (.int (7 : Int32)), s4_] [])) ?_ ?_
  · intro H7
    refine oJoin B (fun s4_ : Slot => (s4_ = .unset ∨ ∃ k, s4_ = .val (.int k)) ∧ own_end (own_N [x0, x1, x2, x3, x4, x5]) (own_C [x0, x1, x2, x3, x4, x5]) tn fr = own_G (own_N [x0, x1, x2, x3, x4, x5]) (own_C [x0, x1, x2, x3, x4, x5]) tn 2 6) (fun s4_ => (mkF m 2 #[.val (.ref a1), .val (.int f1), .val (.int t1), .val (.int (6 : Int32)), s4_] [])) ?_ ?_
    · intro H6
      refine oJoin B (fun s4_ : Slot => (s4_ = .unset ∨ ∃ k, s4_ = .val (.int k)) ∧ own_end (own_N [x0, x1, x2, x3, x4, x5]) (own_C [x0, x1, x2, x3, x4, x5]) tn fr = own_G (own_N [x0, x1, x2, x3, x4, x5]) (own_C [x0, x1, x2, x3, x4, x5]) tn 3 5) (fun s4_ => (mkF m 2 #[.val (.ref a1), .val (.int f1), .val (.int t1), .val (.int (5 : Int32)), s4_] [])) ?_ ?_
      · intro H5
        refine oJoin B (fun s4_ : Slot => (s4_ = .unset ∨ ∃ k, s4_ = .val (.int k)) ∧ own_end (own_N [x0, x1, x2, x3, x4, x5]) (own_C [x0, x1, x2, x3, x4, x5]) tn fr = own_G (own_N [x0, x1, x2, x3, x4, x5]) (own_C [x0, x1, x2, x3, x4, x5]) tn 4 4) (fun s4_ => (mkF m 2 #[.val (.ref a1), .val (.int f1), .val (.int t1), .val (.int (4 : Int32)), s4_] [])) ?_ ?_
        · intro H4
          refine oJoin B (fun s4_ : Slot => (s4_ = .unset ∨ ∃ k, s4_ = .val (.int k)) ∧ own_end (own_N [x0, x1, x2, x3, x4, x5]) (own_C [x0, x1, x2, x3, x4, x5]) tn fr = own_G (own_N [x0, x1, x2, x3, x4, x5]) (own_C [x0, x1, x2, x3, x4, x5]) tn 5 3) (fun s4_ => (mkF m 2 #[.val (.ref a1), .val (.int f1), .val (.int t1), .val (.int (3 : Int32)), s4_] [])) ?_ ?_
          · intro H3
            refine oJoin B (fun s4_ : Slot => (s4_ = .unset ∨ ∃ k, s4_ = .val (.int k)) ∧ own_end (own_N [x0, x1, x2, x3, x4, x5]) (own_C [x0, x1, x2, x3, x4, x5]) tn fr = own_G (own_N [x0, x1, x2, x3, x4, x5]) (own_C [x0, x1, x2, x3, x4, x5]) tn 6 2) (fun s4_ => (mkF m 2 #[.val (.ref a1), .val (.int f1), .val (.int t1), .val (.int (2 : Int32)), s4_] [])) ?_ ?_
            · intro H2
              refine oJoin B (fun s4_ : Slot => (s4_ = .unset ∨ ∃ k, s4_ = .val (.int k)) ∧ own_end (own_N [x0, x1, x2, x3, x4, x5]) (own_C [x0, x1, x2, x3, x4, x5]) tn fr = own_G (own_N [x0, x1, x2, x3, x4, x5]) (own_C [x0, x1, x2, x3, x4, x5]) tn 7 1) (fun s4_ => (mkF m 2 #[.val (.ref a1), .val (.int f1), .val (.int t1), .val (.int (1 : Int32)), s4_] [])) ?_ ?_
              · intro H1
                refine oJoin B (fun s4_ : Slot => (s4_ = .unset ∨ ∃ k, s4_ = .val (.int k)) ∧ own_end (own_N [x0, x1, x2, x3, x4, x5]) (own_C [x0, x1, x2, x3, x4, x5]) tn fr = own_G (own_N [x0, x1, x2, x3, x4, x5]) (own_C [x0, x1, x2, x3, x4, x5]) tn 8 0) (fun s4_ => (mkF m 2 #[.val (.ref a1), .val (.int f1), .val (.int t1), .val (.int (0 : Int32)), s4_] [])) ?_ ?_
                · intro H0
                  refine W_iloadN B (hb hby d2_0) (pc' := 1) rfl rfl ?_
                  refine W_istoreN B (hb hby d2_1) (pc' := 2) rfl (v := f1) rfl (ls' := #[.val (.ref a1), .val (.int f1), .val (.int t1), .val (.int f1), .unset]) rfl ?_
                  have hc_ : fr = 0 ∨ fr = 1 ∨ fr = 2 ∨ fr = 3 ∨ fr = 4 ∨ fr = 5 ∨ fr = 6 ∨ fr = 7 := by omega
                  rcases hc_ with rfl | rfl | rfl | rfl | rfl | rfl | rfl | rfl
                  · obtain rfl : f1 = (0 : Int32) := otoI hf
                    exact H0 _ _ ⟨Or.inl rfl, rfl⟩ B
                  · obtain rfl : f1 = (1 : Int32) := otoI hf
                    exact H1 _ _ ⟨Or.inl rfl, rfl⟩ B
                  · obtain rfl : f1 = (2 : Int32) := otoI hf
                    exact H2 _ _ ⟨Or.inl rfl, rfl⟩ B
                  · obtain rfl : f1 = (3 : Int32) := otoI hf
                    exact H3 _ _ ⟨Or.inl rfl, rfl⟩ B
                  · obtain rfl : f1 = (4 : Int32) := otoI hf
                    exact H4 _ _ ⟨Or.inl rfl, rfl⟩ B
                  · obtain rfl : f1 = (5 : Int32) := otoI hf
                    exact H5 _ _ ⟨Or.inl rfl, rfl⟩ B
                  · obtain rfl : f1 = (6 : Int32) := otoI hf
                    exact H6 _ _ ⟨Or.inl rfl, rfl⟩ B
                  · obtain rfl : f1 = (7 : Int32) := otoI hf
                    exact H7 _ _ ⟨Or.inl rfl, rfl⟩ B
                · intro s4_ T hz B
                  obtain ⟨hs4, hE⟩ := hz
                  refine W_iloadN B (hb hby d2_2) (pc' := 3) rfl rfl ?_
                  refine W_iloadN B (hb hby d2_3) (pc' := 4) rfl rfl ?_
                  refine W_icmp_ge B (hb hby d2_4) (by decide) (pt := 79) (by decide) (pc' := 7) rfl (fun (c68 : ¬ (0 : Int32) < t1) => ?_) (fun (c68 : (0 : Int32) < t1) => ?_)
                  · refine W_iconst B (hb hby d2_79) (pc' := 80) rfl (z := (-1 : Int32)) (by decide) ?_
                    refine W_retI B hret (hb hby d2_80) (by decide) ?_
                    have g1_ : decide (0 < tn) = false := decide_eq_false (by have g_ := onltI c68; have q_ : ((0 : Int32)).toInt = 0 := rfl; omega)
                    refine ⟨?_, rfl⟩
                    rw [hE, own_G_0, g1_]
                    rfl
                  refine W_aloadN B (hb hby d2_7) (pc' := 8) rfl rfl rfl ?_
                  refine W_iloadN B (hb hby d2_8) (pc' := 9) rfl rfl ?_
                  refine W_baload B (hb hby d2_9) (pc' := 10) rfl (i := 0) rfl (by decide) (v := (.int x0)) rfl ?_
                  refine W_bipush B (hb hby d2_10) (pc' := 12) rfl (z := (10 : Int32)) (by decide) ?_
                  refine W_icmp_ne B (hb hby d2_12) (by decide) (pt := 73) (by decide) (pc' := 15) rfl (fun (c69 : ¬ x0 = (10 : Int32)) => ?_) (fun (c69 : x0 = (10 : Int32)) => ?_)
                  · refine W_iinc B (hb hby d2_73) (pc' := 76) rfl rfl (z := (1 : Int32)) (by decide) (ls' := #[.val (.ref a1), .val (.int f1), .val (.int t1), .val (.int (1 : Int32)), s4_]) rfl ?_
                    refine W_goto B (hb hby d2_76) (by decide) (pc' := 2) (by decide) ?_
                    have g1_ : decide (0 < tn) = true := decide_eq_true (by have g_ := oltI c68; have q_ : ((0 : Int32)).toInt = 0 := rfl; omega)
                    have g2_ : own_N [x0, x1, x2, x3, x4, x5] 0 = false := decide_eq_false c69
                    refine H1 _ _ ⟨hs4, hE.trans ?_⟩ B
                    rw [own_G_0, g1_, g2_]
                    rfl
                  refine W_iloadN B (hb hby d2_15) (pc' := 16) rfl rfl ?_
                  refine W_iconst B (hb hby d2_16) (pc' := 17) rfl (z := (1 : Int32)) (by decide) ?_
                  refine W_iadd B (hb hby d2_17) (pc' := 18) rfl (z := (1 : Int32)) (by decide) ?_
                  refine W_istore B (hb hby d2_18) (pc' := 20) rfl (v := (1 : Int32)) rfl (ls' := #[.val (.ref a1), .val (.int f1), .val (.int t1), .val (.int (0 : Int32)), .val (.int (1 : Int32))]) (own_st hs4) ?_
                  refine W_iload B (hb hby d2_20) (pc' := 22) rfl rfl ?_
                  refine W_iloadN B (hb hby d2_22) (pc' := 23) rfl rfl ?_
                  refine W_icmp_ge B (hb hby d2_23) (by decide) (pt := 40) (by decide) (pc' := 26) rfl (fun (c70 : ¬ (1 : Int32) < t1) => ?_) (fun (c70 : (1 : Int32) < t1) => ?_)
                  · refine W_iload B (hb hby d2_40) (pc' := 42) rfl rfl ?_
                    refine W_iconst B (hb hby d2_42) (pc' := 43) rfl (z := (1 : Int32)) (by decide) ?_
                    refine W_iadd B (hb hby d2_43) (pc' := 44) rfl (z := (2 : Int32)) (by decide) ?_
                    refine W_iloadN B (hb hby d2_44) (pc' := 45) rfl rfl ?_
                    have n71 : ¬ (2 : Int32) < t1 := by
                      refine onltI_i ?_
                      have fq1 : ((2 : Int32)).toInt = 2 := rfl
                      have fq2 := orI t1
                      have fq3 := orI f1
                      have fq4 := hf
                      have fq5 := hfr
                      have fq6 := ht
                      have fq7 := htn
                      have fq8 : ((0 : Int32)).toInt = 0 := rfl
                      have fq9 := oltI c68
                      have fq10 := orI x0
                      have fq11 : ((10 : Int32)).toInt = 10 := rfl
                      have fq12 := oeqI c69
                      have fq13 : ((1 : Int32)).toInt = 1 := rfl
                      have fq14 := onltI c70
                      omega
                    refine W_icmpY B (hb hby d2_45) (by decide) (pc' := 73) (by decide) (flt n71).2.1 ?_
                    refine W_iinc B (hb hby d2_73) (pc' := 76) rfl rfl (z := (1 : Int32)) (by decide) (ls' := #[.val (.ref a1), .val (.int f1), .val (.int t1), .val (.int (1 : Int32)), .val (.int (1 : Int32))]) rfl ?_
                    refine W_goto B (hb hby d2_76) (by decide) (pc' := 2) (by decide) ?_
                    have g1_ : decide (0 < tn) = true := decide_eq_true (by have g_ := oltI c68; have q_ : ((0 : Int32)).toInt = 0 := rfl; omega)
                    have g2_ : own_N [x0, x1, x2, x3, x4, x5] 0 = true := decide_eq_true c69
                    have g3_ : decide (1 < tn) = false := decide_eq_false (by have g_ := onltI c70; have q_ : ((1 : Int32)).toInt = 1 := rfl; omega)
                    have g4_ : decide (2 < tn) = false := decide_eq_false (by have g_ := onltI n71; have q_ : ((2 : Int32)).toInt = 2 := rfl; omega)
                    refine H1 _ _ ⟨Or.inr ⟨_, rfl⟩, hE.trans ?_⟩ B
                    rw [own_G_0, g1_, g2_, g3_, g4_]
                    rfl
                  refine W_aloadN B (hb hby d2_26) (pc' := 27) rfl rfl rfl ?_
                  refine W_iload B (hb hby d2_27) (pc' := 29) rfl rfl ?_
                  refine W_baload B (hb hby d2_29) (pc' := 30) rfl (i := 0) rfl (by decide) (v := (.int x1)) rfl ?_
                  refine W_bipush B (hb hby d2_30) (pc' := 32) rfl (z := (10 : Int32)) (by decide) ?_
                  refine W_icmp_ne B (hb hby d2_32) (by decide) (pt := 40) (by decide) (pc' := 35) rfl (fun (c72 : ¬ x1 = (10 : Int32)) => ?_) (fun (c72 : x1 = (10 : Int32)) => ?_)
                  · refine W_iload B (hb hby d2_40) (pc' := 42) rfl rfl ?_
                    refine W_iconst B (hb hby d2_42) (pc' := 43) rfl (z := (1 : Int32)) (by decide) ?_
                    refine W_iadd B (hb hby d2_43) (pc' := 44) rfl (z := (2 : Int32)) (by decide) ?_
                    refine W_iloadN B (hb hby d2_44) (pc' := 45) rfl rfl ?_
                    refine W_icmp_ge B (hb hby d2_45) (by decide) (pt := 73) (by decide) (pc' := 48) rfl (fun (c73 : ¬ (2 : Int32) < t1) => ?_) (fun (c73 : (2 : Int32) < t1) => ?_)
                    · refine W_iinc B (hb hby d2_73) (pc' := 76) rfl rfl (z := (1 : Int32)) (by decide) (ls' := #[.val (.ref a1), .val (.int f1), .val (.int t1), .val (.int (1 : Int32)), .val (.int (1 : Int32))]) rfl ?_
                      refine W_goto B (hb hby d2_76) (by decide) (pc' := 2) (by decide) ?_
                      have g1_ : decide (0 < tn) = true := decide_eq_true (by have g_ := oltI c68; have q_ : ((0 : Int32)).toInt = 0 := rfl; omega)
                      have g2_ : own_N [x0, x1, x2, x3, x4, x5] 0 = true := decide_eq_true c69
                      have g3_ : decide (1 < tn) = true := decide_eq_true (by have g_ := oltI c70; have q_ : ((1 : Int32)).toInt = 1 := rfl; omega)
                      have g4_ : own_N [x0, x1, x2, x3, x4, x5] 1 = false := decide_eq_false c72
                      have g5_ : decide (2 < tn) = false := decide_eq_false (by have g_ := onltI c73; have q_ : ((2 : Int32)).toInt = 2 := rfl; omega)
                      refine H1 _ _ ⟨Or.inr ⟨_, rfl⟩, hE.trans ?_⟩ B
                      rw [own_G_0, g1_, g2_, g3_, g4_, g5_]
                      rfl
                    refine W_aloadN B (hb hby d2_48) (pc' := 49) rfl rfl rfl ?_
                    refine W_iload B (hb hby d2_49) (pc' := 51) rfl rfl ?_
                    refine W_baload B (hb hby d2_51) (pc' := 52) rfl (i := 0) rfl (by decide) (v := (.int x1)) rfl ?_
                    refine W_bipush B (hb hby d2_52) (pc' := 54) rfl (z := (13 : Int32)) (by decide) ?_
                    refine W_icmp_ne B (hb hby d2_54) (by decide) (pt := 73) (by decide) (pc' := 57) rfl (fun (c74 : ¬ x1 = (13 : Int32)) => ?_) (fun (c74 : x1 = (13 : Int32)) => ?_)
                    · refine W_iinc B (hb hby d2_73) (pc' := 76) rfl rfl (z := (1 : Int32)) (by decide) (ls' := #[.val (.ref a1), .val (.int f1), .val (.int t1), .val (.int (1 : Int32)), .val (.int (1 : Int32))]) rfl ?_
                      refine W_goto B (hb hby d2_76) (by decide) (pc' := 2) (by decide) ?_
                      have g1_ : decide (0 < tn) = true := decide_eq_true (by have g_ := oltI c68; have q_ : ((0 : Int32)).toInt = 0 := rfl; omega)
                      have g2_ : own_N [x0, x1, x2, x3, x4, x5] 0 = true := decide_eq_true c69
                      have g3_ : decide (1 < tn) = true := decide_eq_true (by have g_ := oltI c70; have q_ : ((1 : Int32)).toInt = 1 := rfl; omega)
                      have g4_ : own_N [x0, x1, x2, x3, x4, x5] 1 = false := decide_eq_false c72
                      have g5_ : decide (2 < tn) = true := decide_eq_true (by have g_ := oltI c73; have q_ : ((2 : Int32)).toInt = 2 := rfl; omega)
                      have g6_ : own_C [x0, x1, x2, x3, x4, x5] 1 = false := decide_eq_false c74
                      refine H1 _ _ ⟨Or.inr ⟨_, rfl⟩, hE.trans ?_⟩ B
                      rw [own_G_0, g1_, g2_, g3_, g4_, g5_, g6_]
                      rfl
                    refine W_aloadN B (hb hby d2_57) (pc' := 58) rfl rfl rfl ?_
                    refine W_iload B (hb hby d2_58) (pc' := 60) rfl rfl ?_
                    refine W_iconst B (hb hby d2_60) (pc' := 61) rfl (z := (1 : Int32)) (by decide) ?_
                    refine W_iadd B (hb hby d2_61) (pc' := 62) rfl (z := (2 : Int32)) (by decide) ?_
                    refine W_baload B (hb hby d2_62) (pc' := 63) rfl (i := 0) rfl (by decide) (v := (.int x2)) rfl ?_
                    refine W_bipush B (hb hby d2_63) (pc' := 65) rfl (z := (10 : Int32)) (by decide) ?_
                    refine W_icmp_ne B (hb hby d2_65) (by decide) (pt := 73) (by decide) (pc' := 68) rfl (fun (c75 : ¬ x2 = (10 : Int32)) => ?_) (fun (c75 : x2 = (10 : Int32)) => ?_)
                    · refine W_iinc B (hb hby d2_73) (pc' := 76) rfl rfl (z := (1 : Int32)) (by decide) (ls' := #[.val (.ref a1), .val (.int f1), .val (.int t1), .val (.int (1 : Int32)), .val (.int (1 : Int32))]) rfl ?_
                      refine W_goto B (hb hby d2_76) (by decide) (pc' := 2) (by decide) ?_
                      have g1_ : decide (0 < tn) = true := decide_eq_true (by have g_ := oltI c68; have q_ : ((0 : Int32)).toInt = 0 := rfl; omega)
                      have g2_ : own_N [x0, x1, x2, x3, x4, x5] 0 = true := decide_eq_true c69
                      have g3_ : decide (1 < tn) = true := decide_eq_true (by have g_ := oltI c70; have q_ : ((1 : Int32)).toInt = 1 := rfl; omega)
                      have g4_ : own_N [x0, x1, x2, x3, x4, x5] 1 = false := decide_eq_false c72
                      have g5_ : decide (2 < tn) = true := decide_eq_true (by have g_ := oltI c73; have q_ : ((2 : Int32)).toInt = 2 := rfl; omega)
                      have g6_ : own_C [x0, x1, x2, x3, x4, x5] 1 = true := decide_eq_true c74
                      have g7_ : own_N [x0, x1, x2, x3, x4, x5] 2 = false := decide_eq_false c75
                      refine H1 _ _ ⟨Or.inr ⟨_, rfl⟩, hE.trans ?_⟩ B
                      rw [own_G_0, g1_, g2_, g3_, g4_, g5_, g6_, g7_]
                      rfl
                    refine W_iload B (hb hby d2_68) (pc' := 70) rfl rfl ?_
                    refine W_iconst B (hb hby d2_70) (pc' := 71) rfl (z := (2 : Int32)) (by decide) ?_
                    refine W_iadd B (hb hby d2_71) (pc' := 72) rfl (z := (3 : Int32)) (by decide) ?_
                    refine W_retI B hret (hb hby d2_72) (by decide) ?_
                    have g1_ : decide (0 < tn) = true := decide_eq_true (by have g_ := oltI c68; have q_ : ((0 : Int32)).toInt = 0 := rfl; omega)
                    have g2_ : own_N [x0, x1, x2, x3, x4, x5] 0 = true := decide_eq_true c69
                    have g3_ : decide (1 < tn) = true := decide_eq_true (by have g_ := oltI c70; have q_ : ((1 : Int32)).toInt = 1 := rfl; omega)
                    have g4_ : own_N [x0, x1, x2, x3, x4, x5] 1 = false := decide_eq_false c72
                    have g5_ : decide (2 < tn) = true := decide_eq_true (by have g_ := oltI c73; have q_ : ((2 : Int32)).toInt = 2 := rfl; omega)
                    have g6_ : own_C [x0, x1, x2, x3, x4, x5] 1 = true := decide_eq_true c74
                    have g7_ : own_N [x0, x1, x2, x3, x4, x5] 2 = true := decide_eq_true c75
                    refine ⟨?_, rfl⟩
                    rw [hE, own_G_0, g1_, g2_, g3_, g4_, g5_, g6_, g7_]
                    rfl
                  refine W_iload B (hb hby d2_35) (pc' := 37) rfl rfl ?_
                  refine W_iconst B (hb hby d2_37) (pc' := 38) rfl (z := (1 : Int32)) (by decide) ?_
                  refine W_iadd B (hb hby d2_38) (pc' := 39) rfl (z := (2 : Int32)) (by decide) ?_
                  refine W_retI B hret (hb hby d2_39) (by decide) ?_
                  have g1_ : decide (0 < tn) = true := decide_eq_true (by have g_ := oltI c68; have q_ : ((0 : Int32)).toInt = 0 := rfl; omega)
                  have g2_ : own_N [x0, x1, x2, x3, x4, x5] 0 = true := decide_eq_true c69
                  have g3_ : decide (1 < tn) = true := decide_eq_true (by have g_ := oltI c70; have q_ : ((1 : Int32)).toInt = 1 := rfl; omega)
                  have g4_ : own_N [x0, x1, x2, x3, x4, x5] 1 = true := decide_eq_true c72
                  refine ⟨?_, rfl⟩
                  rw [hE, own_G_0, g1_, g2_, g3_, g4_]
                  rfl
              · intro s4_ T hz B
                obtain ⟨hs4, hE⟩ := hz
                refine W_iloadN B (hb hby d2_2) (pc' := 3) rfl rfl ?_
                refine W_iloadN B (hb hby d2_3) (pc' := 4) rfl rfl ?_
                refine W_icmp_ge B (hb hby d2_4) (by decide) (pt := 79) (by decide) (pc' := 7) rfl (fun (c60 : ¬ (1 : Int32) < t1) => ?_) (fun (c60 : (1 : Int32) < t1) => ?_)
                · refine W_iconst B (hb hby d2_79) (pc' := 80) rfl (z := (-1 : Int32)) (by decide) ?_
                  refine W_retI B hret (hb hby d2_80) (by decide) ?_
                  have g1_ : decide (1 < tn) = false := decide_eq_false (by have g_ := onltI c60; have q_ : ((1 : Int32)).toInt = 1 := rfl; omega)
                  refine ⟨?_, rfl⟩
                  rw [hE, own_G_1, g1_]
                  rfl
                refine W_aloadN B (hb hby d2_7) (pc' := 8) rfl rfl rfl ?_
                refine W_iloadN B (hb hby d2_8) (pc' := 9) rfl rfl ?_
                refine W_baload B (hb hby d2_9) (pc' := 10) rfl (i := 0) rfl (by decide) (v := (.int x1)) rfl ?_
                refine W_bipush B (hb hby d2_10) (pc' := 12) rfl (z := (10 : Int32)) (by decide) ?_
                refine W_icmp_ne B (hb hby d2_12) (by decide) (pt := 73) (by decide) (pc' := 15) rfl (fun (c61 : ¬ x1 = (10 : Int32)) => ?_) (fun (c61 : x1 = (10 : Int32)) => ?_)
                · refine W_iinc B (hb hby d2_73) (pc' := 76) rfl rfl (z := (2 : Int32)) (by decide) (ls' := #[.val (.ref a1), .val (.int f1), .val (.int t1), .val (.int (2 : Int32)), s4_]) rfl ?_
                  refine W_goto B (hb hby d2_76) (by decide) (pc' := 2) (by decide) ?_
                  have g1_ : decide (1 < tn) = true := decide_eq_true (by have g_ := oltI c60; have q_ : ((1 : Int32)).toInt = 1 := rfl; omega)
                  have g2_ : own_N [x0, x1, x2, x3, x4, x5] 1 = false := decide_eq_false c61
                  refine H2 _ _ ⟨hs4, hE.trans ?_⟩ B
                  rw [own_G_1, g1_, g2_]
                  rfl
                refine W_iloadN B (hb hby d2_15) (pc' := 16) rfl rfl ?_
                refine W_iconst B (hb hby d2_16) (pc' := 17) rfl (z := (1 : Int32)) (by decide) ?_
                refine W_iadd B (hb hby d2_17) (pc' := 18) rfl (z := (2 : Int32)) (by decide) ?_
                refine W_istore B (hb hby d2_18) (pc' := 20) rfl (v := (2 : Int32)) rfl (ls' := #[.val (.ref a1), .val (.int f1), .val (.int t1), .val (.int (1 : Int32)), .val (.int (2 : Int32))]) (own_st hs4) ?_
                refine W_iload B (hb hby d2_20) (pc' := 22) rfl rfl ?_
                refine W_iloadN B (hb hby d2_22) (pc' := 23) rfl rfl ?_
                refine W_icmp_ge B (hb hby d2_23) (by decide) (pt := 40) (by decide) (pc' := 26) rfl (fun (c62 : ¬ (2 : Int32) < t1) => ?_) (fun (c62 : (2 : Int32) < t1) => ?_)
                · refine W_iload B (hb hby d2_40) (pc' := 42) rfl rfl ?_
                  refine W_iconst B (hb hby d2_42) (pc' := 43) rfl (z := (1 : Int32)) (by decide) ?_
                  refine W_iadd B (hb hby d2_43) (pc' := 44) rfl (z := (3 : Int32)) (by decide) ?_
                  refine W_iloadN B (hb hby d2_44) (pc' := 45) rfl rfl ?_
                  have n63 : ¬ (3 : Int32) < t1 := by
                    refine onltI_i ?_
                    have fq1 : ((3 : Int32)).toInt = 3 := rfl
                    have fq2 := orI t1
                    have fq3 := orI f1
                    have fq4 := hf
                    have fq5 := hfr
                    have fq6 := ht
                    have fq7 := htn
                    have fq8 : ((1 : Int32)).toInt = 1 := rfl
                    have fq9 := oltI c60
                    have fq10 := orI x1
                    have fq11 : ((10 : Int32)).toInt = 10 := rfl
                    have fq12 := oeqI c61
                    have fq13 : ((2 : Int32)).toInt = 2 := rfl
                    have fq14 := onltI c62
                    omega
                  refine W_icmpY B (hb hby d2_45) (by decide) (pc' := 73) (by decide) (flt n63).2.1 ?_
                  refine W_iinc B (hb hby d2_73) (pc' := 76) rfl rfl (z := (2 : Int32)) (by decide) (ls' := #[.val (.ref a1), .val (.int f1), .val (.int t1), .val (.int (2 : Int32)), .val (.int (2 : Int32))]) rfl ?_
                  refine W_goto B (hb hby d2_76) (by decide) (pc' := 2) (by decide) ?_
                  have g1_ : decide (1 < tn) = true := decide_eq_true (by have g_ := oltI c60; have q_ : ((1 : Int32)).toInt = 1 := rfl; omega)
                  have g2_ : own_N [x0, x1, x2, x3, x4, x5] 1 = true := decide_eq_true c61
                  have g3_ : decide (2 < tn) = false := decide_eq_false (by have g_ := onltI c62; have q_ : ((2 : Int32)).toInt = 2 := rfl; omega)
                  have g4_ : decide (3 < tn) = false := decide_eq_false (by have g_ := onltI n63; have q_ : ((3 : Int32)).toInt = 3 := rfl; omega)
                  refine H2 _ _ ⟨Or.inr ⟨_, rfl⟩, hE.trans ?_⟩ B
                  rw [own_G_1, g1_, g2_, g3_, g4_]
                  rfl
                refine W_aloadN B (hb hby d2_26) (pc' := 27) rfl rfl rfl ?_
                refine W_iload B (hb hby d2_27) (pc' := 29) rfl rfl ?_
                refine W_baload B (hb hby d2_29) (pc' := 30) rfl (i := 0) rfl (by decide) (v := (.int x2)) rfl ?_
                refine W_bipush B (hb hby d2_30) (pc' := 32) rfl (z := (10 : Int32)) (by decide) ?_
                refine W_icmp_ne B (hb hby d2_32) (by decide) (pt := 40) (by decide) (pc' := 35) rfl (fun (c64 : ¬ x2 = (10 : Int32)) => ?_) (fun (c64 : x2 = (10 : Int32)) => ?_)
                · refine W_iload B (hb hby d2_40) (pc' := 42) rfl rfl ?_
                  refine W_iconst B (hb hby d2_42) (pc' := 43) rfl (z := (1 : Int32)) (by decide) ?_
                  refine W_iadd B (hb hby d2_43) (pc' := 44) rfl (z := (3 : Int32)) (by decide) ?_
                  refine W_iloadN B (hb hby d2_44) (pc' := 45) rfl rfl ?_
                  refine W_icmp_ge B (hb hby d2_45) (by decide) (pt := 73) (by decide) (pc' := 48) rfl (fun (c65 : ¬ (3 : Int32) < t1) => ?_) (fun (c65 : (3 : Int32) < t1) => ?_)
                  · refine W_iinc B (hb hby d2_73) (pc' := 76) rfl rfl (z := (2 : Int32)) (by decide) (ls' := #[.val (.ref a1), .val (.int f1), .val (.int t1), .val (.int (2 : Int32)), .val (.int (2 : Int32))]) rfl ?_
                    refine W_goto B (hb hby d2_76) (by decide) (pc' := 2) (by decide) ?_
                    have g1_ : decide (1 < tn) = true := decide_eq_true (by have g_ := oltI c60; have q_ : ((1 : Int32)).toInt = 1 := rfl; omega)
                    have g2_ : own_N [x0, x1, x2, x3, x4, x5] 1 = true := decide_eq_true c61
                    have g3_ : decide (2 < tn) = true := decide_eq_true (by have g_ := oltI c62; have q_ : ((2 : Int32)).toInt = 2 := rfl; omega)
                    have g4_ : own_N [x0, x1, x2, x3, x4, x5] 2 = false := decide_eq_false c64
                    have g5_ : decide (3 < tn) = false := decide_eq_false (by have g_ := onltI c65; have q_ : ((3 : Int32)).toInt = 3 := rfl; omega)
                    refine H2 _ _ ⟨Or.inr ⟨_, rfl⟩, hE.trans ?_⟩ B
                    rw [own_G_1, g1_, g2_, g3_, g4_, g5_]
                    rfl
                  refine W_aloadN B (hb hby d2_48) (pc' := 49) rfl rfl rfl ?_
                  refine W_iload B (hb hby d2_49) (pc' := 51) rfl rfl ?_
                  refine W_baload B (hb hby d2_51) (pc' := 52) rfl (i := 0) rfl (by decide) (v := (.int x2)) rfl ?_
                  refine W_bipush B (hb hby d2_52) (pc' := 54) rfl (z := (13 : Int32)) (by decide) ?_
                  refine W_icmp_ne B (hb hby d2_54) (by decide) (pt := 73) (by decide) (pc' := 57) rfl (fun (c66 : ¬ x2 = (13 : Int32)) => ?_) (fun (c66 : x2 = (13 : Int32)) => ?_)
                  · refine W_iinc B (hb hby d2_73) (pc' := 76) rfl rfl (z := (2 : Int32)) (by decide) (ls' := #[.val (.ref a1), .val (.int f1), .val (.int t1), .val (.int (2 : Int32)), .val (.int (2 : Int32))]) rfl ?_
                    refine W_goto B (hb hby d2_76) (by decide) (pc' := 2) (by decide) ?_
                    have g1_ : decide (1 < tn) = true := decide_eq_true (by have g_ := oltI c60; have q_ : ((1 : Int32)).toInt = 1 := rfl; omega)
                    have g2_ : own_N [x0, x1, x2, x3, x4, x5] 1 = true := decide_eq_true c61
                    have g3_ : decide (2 < tn) = true := decide_eq_true (by have g_ := oltI c62; have q_ : ((2 : Int32)).toInt = 2 := rfl; omega)
                    have g4_ : own_N [x0, x1, x2, x3, x4, x5] 2 = false := decide_eq_false c64
                    have g5_ : decide (3 < tn) = true := decide_eq_true (by have g_ := oltI c65; have q_ : ((3 : Int32)).toInt = 3 := rfl; omega)
                    have g6_ : own_C [x0, x1, x2, x3, x4, x5] 2 = false := decide_eq_false c66
                    refine H2 _ _ ⟨Or.inr ⟨_, rfl⟩, hE.trans ?_⟩ B
                    rw [own_G_1, g1_, g2_, g3_, g4_, g5_, g6_]
                    rfl
                  refine W_aloadN B (hb hby d2_57) (pc' := 58) rfl rfl rfl ?_
                  refine W_iload B (hb hby d2_58) (pc' := 60) rfl rfl ?_
                  refine W_iconst B (hb hby d2_60) (pc' := 61) rfl (z := (1 : Int32)) (by decide) ?_
                  refine W_iadd B (hb hby d2_61) (pc' := 62) rfl (z := (3 : Int32)) (by decide) ?_
                  refine W_baload B (hb hby d2_62) (pc' := 63) rfl (i := 0) rfl (by decide) (v := (.int x3)) rfl ?_
                  refine W_bipush B (hb hby d2_63) (pc' := 65) rfl (z := (10 : Int32)) (by decide) ?_
                  refine W_icmp_ne B (hb hby d2_65) (by decide) (pt := 73) (by decide) (pc' := 68) rfl (fun (c67 : ¬ x3 = (10 : Int32)) => ?_) (fun (c67 : x3 = (10 : Int32)) => ?_)
                  · refine W_iinc B (hb hby d2_73) (pc' := 76) rfl rfl (z := (2 : Int32)) (by decide) (ls' := #[.val (.ref a1), .val (.int f1), .val (.int t1), .val (.int (2 : Int32)), .val (.int (2 : Int32))]) rfl ?_
                    refine W_goto B (hb hby d2_76) (by decide) (pc' := 2) (by decide) ?_
                    have g1_ : decide (1 < tn) = true := decide_eq_true (by have g_ := oltI c60; have q_ : ((1 : Int32)).toInt = 1 := rfl; omega)
                    have g2_ : own_N [x0, x1, x2, x3, x4, x5] 1 = true := decide_eq_true c61
                    have g3_ : decide (2 < tn) = true := decide_eq_true (by have g_ := oltI c62; have q_ : ((2 : Int32)).toInt = 2 := rfl; omega)
                    have g4_ : own_N [x0, x1, x2, x3, x4, x5] 2 = false := decide_eq_false c64
                    have g5_ : decide (3 < tn) = true := decide_eq_true (by have g_ := oltI c65; have q_ : ((3 : Int32)).toInt = 3 := rfl; omega)
                    have g6_ : own_C [x0, x1, x2, x3, x4, x5] 2 = true := decide_eq_true c66
                    have g7_ : own_N [x0, x1, x2, x3, x4, x5] 3 = false := decide_eq_false c67
                    refine H2 _ _ ⟨Or.inr ⟨_, rfl⟩, hE.trans ?_⟩ B
                    rw [own_G_1, g1_, g2_, g3_, g4_, g5_, g6_, g7_]
                    rfl
                  refine W_iload B (hb hby d2_68) (pc' := 70) rfl rfl ?_
                  refine W_iconst B (hb hby d2_70) (pc' := 71) rfl (z := (2 : Int32)) (by decide) ?_
                  refine W_iadd B (hb hby d2_71) (pc' := 72) rfl (z := (4 : Int32)) (by decide) ?_
                  refine W_retI B hret (hb hby d2_72) (by decide) ?_
                  have g1_ : decide (1 < tn) = true := decide_eq_true (by have g_ := oltI c60; have q_ : ((1 : Int32)).toInt = 1 := rfl; omega)
                  have g2_ : own_N [x0, x1, x2, x3, x4, x5] 1 = true := decide_eq_true c61
                  have g3_ : decide (2 < tn) = true := decide_eq_true (by have g_ := oltI c62; have q_ : ((2 : Int32)).toInt = 2 := rfl; omega)
                  have g4_ : own_N [x0, x1, x2, x3, x4, x5] 2 = false := decide_eq_false c64
                  have g5_ : decide (3 < tn) = true := decide_eq_true (by have g_ := oltI c65; have q_ : ((3 : Int32)).toInt = 3 := rfl; omega)
                  have g6_ : own_C [x0, x1, x2, x3, x4, x5] 2 = true := decide_eq_true c66
                  have g7_ : own_N [x0, x1, x2, x3, x4, x5] 3 = true := decide_eq_true c67
                  refine ⟨?_, rfl⟩
                  rw [hE, own_G_1, g1_, g2_, g3_, g4_, g5_, g6_, g7_]
                  rfl
                refine W_iload B (hb hby d2_35) (pc' := 37) rfl rfl ?_
                refine W_iconst B (hb hby d2_37) (pc' := 38) rfl (z := (1 : Int32)) (by decide) ?_
                refine W_iadd B (hb hby d2_38) (pc' := 39) rfl (z := (3 : Int32)) (by decide) ?_
                refine W_retI B hret (hb hby d2_39) (by decide) ?_
                have g1_ : decide (1 < tn) = true := decide_eq_true (by have g_ := oltI c60; have q_ : ((1 : Int32)).toInt = 1 := rfl; omega)
                have g2_ : own_N [x0, x1, x2, x3, x4, x5] 1 = true := decide_eq_true c61
                have g3_ : decide (2 < tn) = true := decide_eq_true (by have g_ := oltI c62; have q_ : ((2 : Int32)).toInt = 2 := rfl; omega)
                have g4_ : own_N [x0, x1, x2, x3, x4, x5] 2 = true := decide_eq_true c64
                refine ⟨?_, rfl⟩
                rw [hE, own_G_1, g1_, g2_, g3_, g4_]
                rfl
            · intro s4_ T hz B
              obtain ⟨hs4, hE⟩ := hz
              refine W_iloadN B (hb hby d2_2) (pc' := 3) rfl rfl ?_
              refine W_iloadN B (hb hby d2_3) (pc' := 4) rfl rfl ?_
              refine W_icmp_ge B (hb hby d2_4) (by decide) (pt := 79) (by decide) (pc' := 7) rfl (fun (c52 : ¬ (2 : Int32) < t1) => ?_) (fun (c52 : (2 : Int32) < t1) => ?_)
              · refine W_iconst B (hb hby d2_79) (pc' := 80) rfl (z := (-1 : Int32)) (by decide) ?_
                refine W_retI B hret (hb hby d2_80) (by decide) ?_
                have g1_ : decide (2 < tn) = false := decide_eq_false (by have g_ := onltI c52; have q_ : ((2 : Int32)).toInt = 2 := rfl; omega)
                refine ⟨?_, rfl⟩
                rw [hE, own_G_2, g1_]
                rfl
              refine W_aloadN B (hb hby d2_7) (pc' := 8) rfl rfl rfl ?_
              refine W_iloadN B (hb hby d2_8) (pc' := 9) rfl rfl ?_
              refine W_baload B (hb hby d2_9) (pc' := 10) rfl (i := 0) rfl (by decide) (v := (.int x2)) rfl ?_
              refine W_bipush B (hb hby d2_10) (pc' := 12) rfl (z := (10 : Int32)) (by decide) ?_
              refine W_icmp_ne B (hb hby d2_12) (by decide) (pt := 73) (by decide) (pc' := 15) rfl (fun (c53 : ¬ x2 = (10 : Int32)) => ?_) (fun (c53 : x2 = (10 : Int32)) => ?_)
              · refine W_iinc B (hb hby d2_73) (pc' := 76) rfl rfl (z := (3 : Int32)) (by decide) (ls' := #[.val (.ref a1), .val (.int f1), .val (.int t1), .val (.int (3 : Int32)), s4_]) rfl ?_
                refine W_goto B (hb hby d2_76) (by decide) (pc' := 2) (by decide) ?_
                have g1_ : decide (2 < tn) = true := decide_eq_true (by have g_ := oltI c52; have q_ : ((2 : Int32)).toInt = 2 := rfl; omega)
                have g2_ : own_N [x0, x1, x2, x3, x4, x5] 2 = false := decide_eq_false c53
                refine H3 _ _ ⟨hs4, hE.trans ?_⟩ B
                rw [own_G_2, g1_, g2_]
                rfl
              refine W_iloadN B (hb hby d2_15) (pc' := 16) rfl rfl ?_
              refine W_iconst B (hb hby d2_16) (pc' := 17) rfl (z := (1 : Int32)) (by decide) ?_
              refine W_iadd B (hb hby d2_17) (pc' := 18) rfl (z := (3 : Int32)) (by decide) ?_
              refine W_istore B (hb hby d2_18) (pc' := 20) rfl (v := (3 : Int32)) rfl (ls' := #[.val (.ref a1), .val (.int f1), .val (.int t1), .val (.int (2 : Int32)), .val (.int (3 : Int32))]) (own_st hs4) ?_
              refine W_iload B (hb hby d2_20) (pc' := 22) rfl rfl ?_
              refine W_iloadN B (hb hby d2_22) (pc' := 23) rfl rfl ?_
              refine W_icmp_ge B (hb hby d2_23) (by decide) (pt := 40) (by decide) (pc' := 26) rfl (fun (c54 : ¬ (3 : Int32) < t1) => ?_) (fun (c54 : (3 : Int32) < t1) => ?_)
              · refine W_iload B (hb hby d2_40) (pc' := 42) rfl rfl ?_
                refine W_iconst B (hb hby d2_42) (pc' := 43) rfl (z := (1 : Int32)) (by decide) ?_
                refine W_iadd B (hb hby d2_43) (pc' := 44) rfl (z := (4 : Int32)) (by decide) ?_
                refine W_iloadN B (hb hby d2_44) (pc' := 45) rfl rfl ?_
                have n55 : ¬ (4 : Int32) < t1 := by
                  refine onltI_i ?_
                  have fq1 : ((4 : Int32)).toInt = 4 := rfl
                  have fq2 := orI t1
                  have fq3 := orI f1
                  have fq4 := hf
                  have fq5 := hfr
                  have fq6 := ht
                  have fq7 := htn
                  have fq8 : ((2 : Int32)).toInt = 2 := rfl
                  have fq9 := oltI c52
                  have fq10 := orI x2
                  have fq11 : ((10 : Int32)).toInt = 10 := rfl
                  have fq12 := oeqI c53
                  have fq13 : ((3 : Int32)).toInt = 3 := rfl
                  have fq14 := onltI c54
                  omega
                refine W_icmpY B (hb hby d2_45) (by decide) (pc' := 73) (by decide) (flt n55).2.1 ?_
                refine W_iinc B (hb hby d2_73) (pc' := 76) rfl rfl (z := (3 : Int32)) (by decide) (ls' := #[.val (.ref a1), .val (.int f1), .val (.int t1), .val (.int (3 : Int32)), .val (.int (3 : Int32))]) rfl ?_
                refine W_goto B (hb hby d2_76) (by decide) (pc' := 2) (by decide) ?_
                have g1_ : decide (2 < tn) = true := decide_eq_true (by have g_ := oltI c52; have q_ : ((2 : Int32)).toInt = 2 := rfl; omega)
                have g2_ : own_N [x0, x1, x2, x3, x4, x5] 2 = true := decide_eq_true c53
                have g3_ : decide (3 < tn) = false := decide_eq_false (by have g_ := onltI c54; have q_ : ((3 : Int32)).toInt = 3 := rfl; omega)
                have g4_ : decide (4 < tn) = false := decide_eq_false (by have g_ := onltI n55; have q_ : ((4 : Int32)).toInt = 4 := rfl; omega)
                refine H3 _ _ ⟨Or.inr ⟨_, rfl⟩, hE.trans ?_⟩ B
                rw [own_G_2, g1_, g2_, g3_, g4_]
                rfl
              refine W_aloadN B (hb hby d2_26) (pc' := 27) rfl rfl rfl ?_
              refine W_iload B (hb hby d2_27) (pc' := 29) rfl rfl ?_
              refine W_baload B (hb hby d2_29) (pc' := 30) rfl (i := 0) rfl (by decide) (v := (.int x3)) rfl ?_
              refine W_bipush B (hb hby d2_30) (pc' := 32) rfl (z := (10 : Int32)) (by decide) ?_
              refine W_icmp_ne B (hb hby d2_32) (by decide) (pt := 40) (by decide) (pc' := 35) rfl (fun (c56 : ¬ x3 = (10 : Int32)) => ?_) (fun (c56 : x3 = (10 : Int32)) => ?_)
              · refine W_iload B (hb hby d2_40) (pc' := 42) rfl rfl ?_
                refine W_iconst B (hb hby d2_42) (pc' := 43) rfl (z := (1 : Int32)) (by decide) ?_
                refine W_iadd B (hb hby d2_43) (pc' := 44) rfl (z := (4 : Int32)) (by decide) ?_
                refine W_iloadN B (hb hby d2_44) (pc' := 45) rfl rfl ?_
                refine W_icmp_ge B (hb hby d2_45) (by decide) (pt := 73) (by decide) (pc' := 48) rfl (fun (c57 : ¬ (4 : Int32) < t1) => ?_) (fun (c57 : (4 : Int32) < t1) => ?_)
                · refine W_iinc B (hb hby d2_73) (pc' := 76) rfl rfl (z := (3 : Int32)) (by decide) (ls' := #[.val (.ref a1), .val (.int f1), .val (.int t1), .val (.int (3 : Int32)), .val (.int (3 : Int32))]) rfl ?_
                  refine W_goto B (hb hby d2_76) (by decide) (pc' := 2) (by decide) ?_
                  have g1_ : decide (2 < tn) = true := decide_eq_true (by have g_ := oltI c52; have q_ : ((2 : Int32)).toInt = 2 := rfl; omega)
                  have g2_ : own_N [x0, x1, x2, x3, x4, x5] 2 = true := decide_eq_true c53
                  have g3_ : decide (3 < tn) = true := decide_eq_true (by have g_ := oltI c54; have q_ : ((3 : Int32)).toInt = 3 := rfl; omega)
                  have g4_ : own_N [x0, x1, x2, x3, x4, x5] 3 = false := decide_eq_false c56
                  have g5_ : decide (4 < tn) = false := decide_eq_false (by have g_ := onltI c57; have q_ : ((4 : Int32)).toInt = 4 := rfl; omega)
                  refine H3 _ _ ⟨Or.inr ⟨_, rfl⟩, hE.trans ?_⟩ B
                  rw [own_G_2, g1_, g2_, g3_, g4_, g5_]
                  rfl
                refine W_aloadN B (hb hby d2_48) (pc' := 49) rfl rfl rfl ?_
                refine W_iload B (hb hby d2_49) (pc' := 51) rfl rfl ?_
                refine W_baload B (hb hby d2_51) (pc' := 52) rfl (i := 0) rfl (by decide) (v := (.int x3)) rfl ?_
                refine W_bipush B (hb hby d2_52) (pc' := 54) rfl (z := (13 : Int32)) (by decide) ?_
                refine W_icmp_ne B (hb hby d2_54) (by decide) (pt := 73) (by decide) (pc' := 57) rfl (fun (c58 : ¬ x3 = (13 : Int32)) => ?_) (fun (c58 : x3 = (13 : Int32)) => ?_)
                · refine W_iinc B (hb hby d2_73) (pc' := 76) rfl rfl (z := (3 : Int32)) (by decide) (ls' := #[.val (.ref a1), .val (.int f1), .val (.int t1), .val (.int (3 : Int32)), .val (.int (3 : Int32))]) rfl ?_
                  refine W_goto B (hb hby d2_76) (by decide) (pc' := 2) (by decide) ?_
                  have g1_ : decide (2 < tn) = true := decide_eq_true (by have g_ := oltI c52; have q_ : ((2 : Int32)).toInt = 2 := rfl; omega)
                  have g2_ : own_N [x0, x1, x2, x3, x4, x5] 2 = true := decide_eq_true c53
                  have g3_ : decide (3 < tn) = true := decide_eq_true (by have g_ := oltI c54; have q_ : ((3 : Int32)).toInt = 3 := rfl; omega)
                  have g4_ : own_N [x0, x1, x2, x3, x4, x5] 3 = false := decide_eq_false c56
                  have g5_ : decide (4 < tn) = true := decide_eq_true (by have g_ := oltI c57; have q_ : ((4 : Int32)).toInt = 4 := rfl; omega)
                  have g6_ : own_C [x0, x1, x2, x3, x4, x5] 3 = false := decide_eq_false c58
                  refine H3 _ _ ⟨Or.inr ⟨_, rfl⟩, hE.trans ?_⟩ B
                  rw [own_G_2, g1_, g2_, g3_, g4_, g5_, g6_]
                  rfl
                refine W_aloadN B (hb hby d2_57) (pc' := 58) rfl rfl rfl ?_
                refine W_iload B (hb hby d2_58) (pc' := 60) rfl rfl ?_
                refine W_iconst B (hb hby d2_60) (pc' := 61) rfl (z := (1 : Int32)) (by decide) ?_
                refine W_iadd B (hb hby d2_61) (pc' := 62) rfl (z := (4 : Int32)) (by decide) ?_
                refine W_baload B (hb hby d2_62) (pc' := 63) rfl (i := 0) rfl (by decide) (v := (.int x4)) rfl ?_
                refine W_bipush B (hb hby d2_63) (pc' := 65) rfl (z := (10 : Int32)) (by decide) ?_
                refine W_icmp_ne B (hb hby d2_65) (by decide) (pt := 73) (by decide) (pc' := 68) rfl (fun (c59 : ¬ x4 = (10 : Int32)) => ?_) (fun (c59 : x4 = (10 : Int32)) => ?_)
                · refine W_iinc B (hb hby d2_73) (pc' := 76) rfl rfl (z := (3 : Int32)) (by decide) (ls' := #[.val (.ref a1), .val (.int f1), .val (.int t1), .val (.int (3 : Int32)), .val (.int (3 : Int32))]) rfl ?_
                  refine W_goto B (hb hby d2_76) (by decide) (pc' := 2) (by decide) ?_
                  have g1_ : decide (2 < tn) = true := decide_eq_true (by have g_ := oltI c52; have q_ : ((2 : Int32)).toInt = 2 := rfl; omega)
                  have g2_ : own_N [x0, x1, x2, x3, x4, x5] 2 = true := decide_eq_true c53
                  have g3_ : decide (3 < tn) = true := decide_eq_true (by have g_ := oltI c54; have q_ : ((3 : Int32)).toInt = 3 := rfl; omega)
                  have g4_ : own_N [x0, x1, x2, x3, x4, x5] 3 = false := decide_eq_false c56
                  have g5_ : decide (4 < tn) = true := decide_eq_true (by have g_ := oltI c57; have q_ : ((4 : Int32)).toInt = 4 := rfl; omega)
                  have g6_ : own_C [x0, x1, x2, x3, x4, x5] 3 = true := decide_eq_true c58
                  have g7_ : own_N [x0, x1, x2, x3, x4, x5] 4 = false := decide_eq_false c59
                  refine H3 _ _ ⟨Or.inr ⟨_, rfl⟩, hE.trans ?_⟩ B
                  rw [own_G_2, g1_, g2_, g3_, g4_, g5_, g6_, g7_]
                  rfl
                refine W_iload B (hb hby d2_68) (pc' := 70) rfl rfl ?_
                refine W_iconst B (hb hby d2_70) (pc' := 71) rfl (z := (2 : Int32)) (by decide) ?_
                refine W_iadd B (hb hby d2_71) (pc' := 72) rfl (z := (5 : Int32)) (by decide) ?_
                refine W_retI B hret (hb hby d2_72) (by decide) ?_
                have g1_ : decide (2 < tn) = true := decide_eq_true (by have g_ := oltI c52; have q_ : ((2 : Int32)).toInt = 2 := rfl; omega)
                have g2_ : own_N [x0, x1, x2, x3, x4, x5] 2 = true := decide_eq_true c53
                have g3_ : decide (3 < tn) = true := decide_eq_true (by have g_ := oltI c54; have q_ : ((3 : Int32)).toInt = 3 := rfl; omega)
                have g4_ : own_N [x0, x1, x2, x3, x4, x5] 3 = false := decide_eq_false c56
                have g5_ : decide (4 < tn) = true := decide_eq_true (by have g_ := oltI c57; have q_ : ((4 : Int32)).toInt = 4 := rfl; omega)
                have g6_ : own_C [x0, x1, x2, x3, x4, x5] 3 = true := decide_eq_true c58
                have g7_ : own_N [x0, x1, x2, x3, x4, x5] 4 = true := decide_eq_true c59
                refine ⟨?_, rfl⟩
                rw [hE, own_G_2, g1_, g2_, g3_, g4_, g5_, g6_, g7_]
                rfl
              refine W_iload B (hb hby d2_35) (pc' := 37) rfl rfl ?_
              refine W_iconst B (hb hby d2_37) (pc' := 38) rfl (z := (1 : Int32)) (by decide) ?_
              refine W_iadd B (hb hby d2_38) (pc' := 39) rfl (z := (4 : Int32)) (by decide) ?_
              refine W_retI B hret (hb hby d2_39) (by decide) ?_
              have g1_ : decide (2 < tn) = true := decide_eq_true (by have g_ := oltI c52; have q_ : ((2 : Int32)).toInt = 2 := rfl; omega)
              have g2_ : own_N [x0, x1, x2, x3, x4, x5] 2 = true := decide_eq_true c53
              have g3_ : decide (3 < tn) = true := decide_eq_true (by have g_ := oltI c54; have q_ : ((3 : Int32)).toInt = 3 := rfl; omega)
              have g4_ : own_N [x0, x1, x2, x3, x4, x5] 3 = true := decide_eq_true c56
              refine ⟨?_, rfl⟩
              rw [hE, own_G_2, g1_, g2_, g3_, g4_]
              rfl
          · intro s4_ T hz B
            obtain ⟨hs4, hE⟩ := hz
            refine W_iloadN B (hb hby d2_2) (pc' := 3) rfl rfl ?_
            refine W_iloadN B (hb hby d2_3) (pc' := 4) rfl rfl ?_
            refine W_icmp_ge B (hb hby d2_4) (by decide) (pt := 79) (by decide) (pc' := 7) rfl (fun (c44 : ¬ (3 : Int32) < t1) => ?_) (fun (c44 : (3 : Int32) < t1) => ?_)
            · refine W_iconst B (hb hby d2_79) (pc' := 80) rfl (z := (-1 : Int32)) (by decide) ?_
              refine W_retI B hret (hb hby d2_80) (by decide) ?_
              have g1_ : decide (3 < tn) = false := decide_eq_false (by have g_ := onltI c44; have q_ : ((3 : Int32)).toInt = 3 := rfl; omega)
              refine ⟨?_, rfl⟩
              rw [hE, own_G_3, g1_]
              rfl
            refine W_aloadN B (hb hby d2_7) (pc' := 8) rfl rfl rfl ?_
            refine W_iloadN B (hb hby d2_8) (pc' := 9) rfl rfl ?_
            refine W_baload B (hb hby d2_9) (pc' := 10) rfl (i := 0) rfl (by decide) (v := (.int x3)) rfl ?_
            refine W_bipush B (hb hby d2_10) (pc' := 12) rfl (z := (10 : Int32)) (by decide) ?_
            refine W_icmp_ne B (hb hby d2_12) (by decide) (pt := 73) (by decide) (pc' := 15) rfl (fun (c45 : ¬ x3 = (10 : Int32)) => ?_) (fun (c45 : x3 = (10 : Int32)) => ?_)
            · refine W_iinc B (hb hby d2_73) (pc' := 76) rfl rfl (z := (4 : Int32)) (by decide) (ls' := #[.val (.ref a1), .val (.int f1), .val (.int t1), .val (.int (4 : Int32)), s4_]) rfl ?_
              refine W_goto B (hb hby d2_76) (by decide) (pc' := 2) (by decide) ?_
              have g1_ : decide (3 < tn) = true := decide_eq_true (by have g_ := oltI c44; have q_ : ((3 : Int32)).toInt = 3 := rfl; omega)
              have g2_ : own_N [x0, x1, x2, x3, x4, x5] 3 = false := decide_eq_false c45
              refine H4 _ _ ⟨hs4, hE.trans ?_⟩ B
              rw [own_G_3, g1_, g2_]
              rfl
            refine W_iloadN B (hb hby d2_15) (pc' := 16) rfl rfl ?_
            refine W_iconst B (hb hby d2_16) (pc' := 17) rfl (z := (1 : Int32)) (by decide) ?_
            refine W_iadd B (hb hby d2_17) (pc' := 18) rfl (z := (4 : Int32)) (by decide) ?_
            refine W_istore B (hb hby d2_18) (pc' := 20) rfl (v := (4 : Int32)) rfl (ls' := #[.val (.ref a1), .val (.int f1), .val (.int t1), .val (.int (3 : Int32)), .val (.int (4 : Int32))]) (own_st hs4) ?_
            refine W_iload B (hb hby d2_20) (pc' := 22) rfl rfl ?_
            refine W_iloadN B (hb hby d2_22) (pc' := 23) rfl rfl ?_
            refine W_icmp_ge B (hb hby d2_23) (by decide) (pt := 40) (by decide) (pc' := 26) rfl (fun (c46 : ¬ (4 : Int32) < t1) => ?_) (fun (c46 : (4 : Int32) < t1) => ?_)
            · refine W_iload B (hb hby d2_40) (pc' := 42) rfl rfl ?_
              refine W_iconst B (hb hby d2_42) (pc' := 43) rfl (z := (1 : Int32)) (by decide) ?_
              refine W_iadd B (hb hby d2_43) (pc' := 44) rfl (z := (5 : Int32)) (by decide) ?_
              refine W_iloadN B (hb hby d2_44) (pc' := 45) rfl rfl ?_
              have n47 : ¬ (5 : Int32) < t1 := by
                refine onltI_i ?_
                have fq1 : ((5 : Int32)).toInt = 5 := rfl
                have fq2 := orI t1
                have fq3 := orI f1
                have fq4 := hf
                have fq5 := hfr
                have fq6 := ht
                have fq7 := htn
                have fq8 : ((3 : Int32)).toInt = 3 := rfl
                have fq9 := oltI c44
                have fq10 := orI x3
                have fq11 : ((10 : Int32)).toInt = 10 := rfl
                have fq12 := oeqI c45
                have fq13 : ((4 : Int32)).toInt = 4 := rfl
                have fq14 := onltI c46
                omega
              refine W_icmpY B (hb hby d2_45) (by decide) (pc' := 73) (by decide) (flt n47).2.1 ?_
              refine W_iinc B (hb hby d2_73) (pc' := 76) rfl rfl (z := (4 : Int32)) (by decide) (ls' := #[.val (.ref a1), .val (.int f1), .val (.int t1), .val (.int (4 : Int32)), .val (.int (4 : Int32))]) rfl ?_
              refine W_goto B (hb hby d2_76) (by decide) (pc' := 2) (by decide) ?_
              have g1_ : decide (3 < tn) = true := decide_eq_true (by have g_ := oltI c44; have q_ : ((3 : Int32)).toInt = 3 := rfl; omega)
              have g2_ : own_N [x0, x1, x2, x3, x4, x5] 3 = true := decide_eq_true c45
              have g3_ : decide (4 < tn) = false := decide_eq_false (by have g_ := onltI c46; have q_ : ((4 : Int32)).toInt = 4 := rfl; omega)
              have g4_ : decide (5 < tn) = false := decide_eq_false (by have g_ := onltI n47; have q_ : ((5 : Int32)).toInt = 5 := rfl; omega)
              refine H4 _ _ ⟨Or.inr ⟨_, rfl⟩, hE.trans ?_⟩ B
              rw [own_G_3, g1_, g2_, g3_, g4_]
              rfl
            refine W_aloadN B (hb hby d2_26) (pc' := 27) rfl rfl rfl ?_
            refine W_iload B (hb hby d2_27) (pc' := 29) rfl rfl ?_
            refine W_baload B (hb hby d2_29) (pc' := 30) rfl (i := 0) rfl (by decide) (v := (.int x4)) rfl ?_
            refine W_bipush B (hb hby d2_30) (pc' := 32) rfl (z := (10 : Int32)) (by decide) ?_
            refine W_icmp_ne B (hb hby d2_32) (by decide) (pt := 40) (by decide) (pc' := 35) rfl (fun (c48 : ¬ x4 = (10 : Int32)) => ?_) (fun (c48 : x4 = (10 : Int32)) => ?_)
            · refine W_iload B (hb hby d2_40) (pc' := 42) rfl rfl ?_
              refine W_iconst B (hb hby d2_42) (pc' := 43) rfl (z := (1 : Int32)) (by decide) ?_
              refine W_iadd B (hb hby d2_43) (pc' := 44) rfl (z := (5 : Int32)) (by decide) ?_
              refine W_iloadN B (hb hby d2_44) (pc' := 45) rfl rfl ?_
              refine W_icmp_ge B (hb hby d2_45) (by decide) (pt := 73) (by decide) (pc' := 48) rfl (fun (c49 : ¬ (5 : Int32) < t1) => ?_) (fun (c49 : (5 : Int32) < t1) => ?_)
              · refine W_iinc B (hb hby d2_73) (pc' := 76) rfl rfl (z := (4 : Int32)) (by decide) (ls' := #[.val (.ref a1), .val (.int f1), .val (.int t1), .val (.int (4 : Int32)), .val (.int (4 : Int32))]) rfl ?_
                refine W_goto B (hb hby d2_76) (by decide) (pc' := 2) (by decide) ?_
                have g1_ : decide (3 < tn) = true := decide_eq_true (by have g_ := oltI c44; have q_ : ((3 : Int32)).toInt = 3 := rfl; omega)
                have g2_ : own_N [x0, x1, x2, x3, x4, x5] 3 = true := decide_eq_true c45
                have g3_ : decide (4 < tn) = true := decide_eq_true (by have g_ := oltI c46; have q_ : ((4 : Int32)).toInt = 4 := rfl; omega)
                have g4_ : own_N [x0, x1, x2, x3, x4, x5] 4 = false := decide_eq_false c48
                have g5_ : decide (5 < tn) = false := decide_eq_false (by have g_ := onltI c49; have q_ : ((5 : Int32)).toInt = 5 := rfl; omega)
                refine H4 _ _ ⟨Or.inr ⟨_, rfl⟩, hE.trans ?_⟩ B
                rw [own_G_3, g1_, g2_, g3_, g4_, g5_]
                rfl
              refine W_aloadN B (hb hby d2_48) (pc' := 49) rfl rfl rfl ?_
              refine W_iload B (hb hby d2_49) (pc' := 51) rfl rfl ?_
              refine W_baload B (hb hby d2_51) (pc' := 52) rfl (i := 0) rfl (by decide) (v := (.int x4)) rfl ?_
              refine W_bipush B (hb hby d2_52) (pc' := 54) rfl (z := (13 : Int32)) (by decide) ?_
              refine W_icmp_ne B (hb hby d2_54) (by decide) (pt := 73) (by decide) (pc' := 57) rfl (fun (c50 : ¬ x4 = (13 : Int32)) => ?_) (fun (c50 : x4 = (13 : Int32)) => ?_)
              · refine W_iinc B (hb hby d2_73) (pc' := 76) rfl rfl (z := (4 : Int32)) (by decide) (ls' := #[.val (.ref a1), .val (.int f1), .val (.int t1), .val (.int (4 : Int32)), .val (.int (4 : Int32))]) rfl ?_
                refine W_goto B (hb hby d2_76) (by decide) (pc' := 2) (by decide) ?_
                have g1_ : decide (3 < tn) = true := decide_eq_true (by have g_ := oltI c44; have q_ : ((3 : Int32)).toInt = 3 := rfl; omega)
                have g2_ : own_N [x0, x1, x2, x3, x4, x5] 3 = true := decide_eq_true c45
                have g3_ : decide (4 < tn) = true := decide_eq_true (by have g_ := oltI c46; have q_ : ((4 : Int32)).toInt = 4 := rfl; omega)
                have g4_ : own_N [x0, x1, x2, x3, x4, x5] 4 = false := decide_eq_false c48
                have g5_ : decide (5 < tn) = true := decide_eq_true (by have g_ := oltI c49; have q_ : ((5 : Int32)).toInt = 5 := rfl; omega)
                have g6_ : own_C [x0, x1, x2, x3, x4, x5] 4 = false := decide_eq_false c50
                refine H4 _ _ ⟨Or.inr ⟨_, rfl⟩, hE.trans ?_⟩ B
                rw [own_G_3, g1_, g2_, g3_, g4_, g5_, g6_]
                rfl
              refine W_aloadN B (hb hby d2_57) (pc' := 58) rfl rfl rfl ?_
              refine W_iload B (hb hby d2_58) (pc' := 60) rfl rfl ?_
              refine W_iconst B (hb hby d2_60) (pc' := 61) rfl (z := (1 : Int32)) (by decide) ?_
              refine W_iadd B (hb hby d2_61) (pc' := 62) rfl (z := (5 : Int32)) (by decide) ?_
              refine W_baload B (hb hby d2_62) (pc' := 63) rfl (i := 0) rfl (by decide) (v := (.int x5)) rfl ?_
              refine W_bipush B (hb hby d2_63) (pc' := 65) rfl (z := (10 : Int32)) (by decide) ?_
              refine W_icmp_ne B (hb hby d2_65) (by decide) (pt := 73) (by decide) (pc' := 68) rfl (fun (c51 : ¬ x5 = (10 : Int32)) => ?_) (fun (c51 : x5 = (10 : Int32)) => ?_)
              · refine W_iinc B (hb hby d2_73) (pc' := 76) rfl rfl (z := (4 : Int32)) (by decide) (ls' := #[.val (.ref a1), .val (.int f1), .val (.int t1), .val (.int (4 : Int32)), .val (.int (4 : Int32))]) rfl ?_
                refine W_goto B (hb hby d2_76) (by decide) (pc' := 2) (by decide) ?_
                have g1_ : decide (3 < tn) = true := decide_eq_true (by have g_ := oltI c44; have q_ : ((3 : Int32)).toInt = 3 := rfl; omega)
                have g2_ : own_N [x0, x1, x2, x3, x4, x5] 3 = true := decide_eq_true c45
                have g3_ : decide (4 < tn) = true := decide_eq_true (by have g_ := oltI c46; have q_ : ((4 : Int32)).toInt = 4 := rfl; omega)
                have g4_ : own_N [x0, x1, x2, x3, x4, x5] 4 = false := decide_eq_false c48
                have g5_ : decide (5 < tn) = true := decide_eq_true (by have g_ := oltI c49; have q_ : ((5 : Int32)).toInt = 5 := rfl; omega)
                have g6_ : own_C [x0, x1, x2, x3, x4, x5] 4 = true := decide_eq_true c50
                have g7_ : own_N [x0, x1, x2, x3, x4, x5] 5 = false := decide_eq_false c51
                refine H4 _ _ ⟨Or.inr ⟨_, rfl⟩, hE.trans ?_⟩ B
                rw [own_G_3, g1_, g2_, g3_, g4_, g5_, g6_, g7_]
                rfl
              refine W_iload B (hb hby d2_68) (pc' := 70) rfl rfl ?_
              refine W_iconst B (hb hby d2_70) (pc' := 71) rfl (z := (2 : Int32)) (by decide) ?_
              refine W_iadd B (hb hby d2_71) (pc' := 72) rfl (z := (6 : Int32)) (by decide) ?_
              refine W_retI B hret (hb hby d2_72) (by decide) ?_
              have g1_ : decide (3 < tn) = true := decide_eq_true (by have g_ := oltI c44; have q_ : ((3 : Int32)).toInt = 3 := rfl; omega)
              have g2_ : own_N [x0, x1, x2, x3, x4, x5] 3 = true := decide_eq_true c45
              have g3_ : decide (4 < tn) = true := decide_eq_true (by have g_ := oltI c46; have q_ : ((4 : Int32)).toInt = 4 := rfl; omega)
              have g4_ : own_N [x0, x1, x2, x3, x4, x5] 4 = false := decide_eq_false c48
              have g5_ : decide (5 < tn) = true := decide_eq_true (by have g_ := oltI c49; have q_ : ((5 : Int32)).toInt = 5 := rfl; omega)
              have g6_ : own_C [x0, x1, x2, x3, x4, x5] 4 = true := decide_eq_true c50
              have g7_ : own_N [x0, x1, x2, x3, x4, x5] 5 = true := decide_eq_true c51
              refine ⟨?_, rfl⟩
              rw [hE, own_G_3, g1_, g2_, g3_, g4_, g5_, g6_, g7_]
              rfl
            refine W_iload B (hb hby d2_35) (pc' := 37) rfl rfl ?_
            refine W_iconst B (hb hby d2_37) (pc' := 38) rfl (z := (1 : Int32)) (by decide) ?_
            refine W_iadd B (hb hby d2_38) (pc' := 39) rfl (z := (5 : Int32)) (by decide) ?_
            refine W_retI B hret (hb hby d2_39) (by decide) ?_
            have g1_ : decide (3 < tn) = true := decide_eq_true (by have g_ := oltI c44; have q_ : ((3 : Int32)).toInt = 3 := rfl; omega)
            have g2_ : own_N [x0, x1, x2, x3, x4, x5] 3 = true := decide_eq_true c45
            have g3_ : decide (4 < tn) = true := decide_eq_true (by have g_ := oltI c46; have q_ : ((4 : Int32)).toInt = 4 := rfl; omega)
            have g4_ : own_N [x0, x1, x2, x3, x4, x5] 4 = true := decide_eq_true c48
            refine ⟨?_, rfl⟩
            rw [hE, own_G_3, g1_, g2_, g3_, g4_]
            rfl
        · intro s4_ T hz B
          obtain ⟨hs4, hE⟩ := hz
          refine W_iloadN B (hb hby d2_2) (pc' := 3) rfl rfl ?_
          refine W_iloadN B (hb hby d2_3) (pc' := 4) rfl rfl ?_
          refine W_icmp_ge B (hb hby d2_4) (by decide) (pt := 79) (by decide) (pc' := 7) rfl (fun (c38 : ¬ (4 : Int32) < t1) => ?_) (fun (c38 : (4 : Int32) < t1) => ?_)
          · refine W_iconst B (hb hby d2_79) (pc' := 80) rfl (z := (-1 : Int32)) (by decide) ?_
            refine W_retI B hret (hb hby d2_80) (by decide) ?_
            have g1_ : decide (4 < tn) = false := decide_eq_false (by have g_ := onltI c38; have q_ : ((4 : Int32)).toInt = 4 := rfl; omega)
            refine ⟨?_, rfl⟩
            rw [hE, own_G_4, g1_]
            rfl
          refine W_aloadN B (hb hby d2_7) (pc' := 8) rfl rfl rfl ?_
          refine W_iloadN B (hb hby d2_8) (pc' := 9) rfl rfl ?_
          refine W_baload B (hb hby d2_9) (pc' := 10) rfl (i := 0) rfl (by decide) (v := (.int x4)) rfl ?_
          refine W_bipush B (hb hby d2_10) (pc' := 12) rfl (z := (10 : Int32)) (by decide) ?_
          refine W_icmp_ne B (hb hby d2_12) (by decide) (pt := 73) (by decide) (pc' := 15) rfl (fun (c39 : ¬ x4 = (10 : Int32)) => ?_) (fun (c39 : x4 = (10 : Int32)) => ?_)
          · refine W_iinc B (hb hby d2_73) (pc' := 76) rfl rfl (z := (5 : Int32)) (by decide) (ls' := #[.val (.ref a1), .val (.int f1), .val (.int t1), .val (.int (5 : Int32)), s4_]) rfl ?_
            refine W_goto B (hb hby d2_76) (by decide) (pc' := 2) (by decide) ?_
            have g1_ : decide (4 < tn) = true := decide_eq_true (by have g_ := oltI c38; have q_ : ((4 : Int32)).toInt = 4 := rfl; omega)
            have g2_ : own_N [x0, x1, x2, x3, x4, x5] 4 = false := decide_eq_false c39
            refine H5 _ _ ⟨hs4, hE.trans ?_⟩ B
            rw [own_G_4, g1_, g2_]
            rfl
          refine W_iloadN B (hb hby d2_15) (pc' := 16) rfl rfl ?_
          refine W_iconst B (hb hby d2_16) (pc' := 17) rfl (z := (1 : Int32)) (by decide) ?_
          refine W_iadd B (hb hby d2_17) (pc' := 18) rfl (z := (5 : Int32)) (by decide) ?_
          refine W_istore B (hb hby d2_18) (pc' := 20) rfl (v := (5 : Int32)) rfl (ls' := #[.val (.ref a1), .val (.int f1), .val (.int t1), .val (.int (4 : Int32)), .val (.int (5 : Int32))]) (own_st hs4) ?_
          refine W_iload B (hb hby d2_20) (pc' := 22) rfl rfl ?_
          refine W_iloadN B (hb hby d2_22) (pc' := 23) rfl rfl ?_
          refine W_icmp_ge B (hb hby d2_23) (by decide) (pt := 40) (by decide) (pc' := 26) rfl (fun (c40 : ¬ (5 : Int32) < t1) => ?_) (fun (c40 : (5 : Int32) < t1) => ?_)
          · refine W_iload B (hb hby d2_40) (pc' := 42) rfl rfl ?_
            refine W_iconst B (hb hby d2_42) (pc' := 43) rfl (z := (1 : Int32)) (by decide) ?_
            refine W_iadd B (hb hby d2_43) (pc' := 44) rfl (z := (6 : Int32)) (by decide) ?_
            refine W_iloadN B (hb hby d2_44) (pc' := 45) rfl rfl ?_
            have n41 : ¬ (6 : Int32) < t1 := by
              refine onltI_i ?_
              have fq1 : ((6 : Int32)).toInt = 6 := rfl
              have fq2 := orI t1
              have fq3 := orI f1
              have fq4 := hf
              have fq5 := hfr
              have fq6 := ht
              have fq7 := htn
              have fq8 : ((4 : Int32)).toInt = 4 := rfl
              have fq9 := oltI c38
              have fq10 := orI x4
              have fq11 : ((10 : Int32)).toInt = 10 := rfl
              have fq12 := oeqI c39
              have fq13 : ((5 : Int32)).toInt = 5 := rfl
              have fq14 := onltI c40
              omega
            refine W_icmpY B (hb hby d2_45) (by decide) (pc' := 73) (by decide) (flt n41).2.1 ?_
            refine W_iinc B (hb hby d2_73) (pc' := 76) rfl rfl (z := (5 : Int32)) (by decide) (ls' := #[.val (.ref a1), .val (.int f1), .val (.int t1), .val (.int (5 : Int32)), .val (.int (5 : Int32))]) rfl ?_
            refine W_goto B (hb hby d2_76) (by decide) (pc' := 2) (by decide) ?_
            have g1_ : decide (4 < tn) = true := decide_eq_true (by have g_ := oltI c38; have q_ : ((4 : Int32)).toInt = 4 := rfl; omega)
            have g2_ : own_N [x0, x1, x2, x3, x4, x5] 4 = true := decide_eq_true c39
            have g3_ : decide (5 < tn) = false := decide_eq_false (by have g_ := onltI c40; have q_ : ((5 : Int32)).toInt = 5 := rfl; omega)
            have g4_ : decide (6 < tn) = false := decide_eq_false (by have g_ := onltI n41; have q_ : ((6 : Int32)).toInt = 6 := rfl; omega)
            refine H5 _ _ ⟨Or.inr ⟨_, rfl⟩, hE.trans ?_⟩ B
            rw [own_G_4, g1_, g2_, g3_, g4_]
            rfl
          refine W_aloadN B (hb hby d2_26) (pc' := 27) rfl rfl rfl ?_
          refine W_iload B (hb hby d2_27) (pc' := 29) rfl rfl ?_
          refine W_baload B (hb hby d2_29) (pc' := 30) rfl (i := 0) rfl (by decide) (v := (.int x5)) rfl ?_
          refine W_bipush B (hb hby d2_30) (pc' := 32) rfl (z := (10 : Int32)) (by decide) ?_
          refine W_icmp_ne B (hb hby d2_32) (by decide) (pt := 40) (by decide) (pc' := 35) rfl (fun (c42 : ¬ x5 = (10 : Int32)) => ?_) (fun (c42 : x5 = (10 : Int32)) => ?_)
          · refine W_iload B (hb hby d2_40) (pc' := 42) rfl rfl ?_
            refine W_iconst B (hb hby d2_42) (pc' := 43) rfl (z := (1 : Int32)) (by decide) ?_
            refine W_iadd B (hb hby d2_43) (pc' := 44) rfl (z := (6 : Int32)) (by decide) ?_
            refine W_iloadN B (hb hby d2_44) (pc' := 45) rfl rfl ?_
            have n43 : ¬ (6 : Int32) < t1 := by
              refine onltI_i ?_
              have fq1 : ((6 : Int32)).toInt = 6 := rfl
              have fq2 := orI t1
              have fq3 := orI f1
              have fq4 := hf
              have fq5 := hfr
              have fq6 := ht
              have fq7 := htn
              have fq8 : ((4 : Int32)).toInt = 4 := rfl
              have fq9 := oltI c38
              have fq10 := orI x4
              have fq11 : ((10 : Int32)).toInt = 10 := rfl
              have fq12 := oeqI c39
              have fq13 : ((5 : Int32)).toInt = 5 := rfl
              have fq14 := oltI c40
              have fq15 := orI x5
              have fq16 := oneI c42
              omega
            refine W_icmpY B (hb hby d2_45) (by decide) (pc' := 73) (by decide) (flt n43).2.1 ?_
            refine W_iinc B (hb hby d2_73) (pc' := 76) rfl rfl (z := (5 : Int32)) (by decide) (ls' := #[.val (.ref a1), .val (.int f1), .val (.int t1), .val (.int (5 : Int32)), .val (.int (5 : Int32))]) rfl ?_
            refine W_goto B (hb hby d2_76) (by decide) (pc' := 2) (by decide) ?_
            have g1_ : decide (4 < tn) = true := decide_eq_true (by have g_ := oltI c38; have q_ : ((4 : Int32)).toInt = 4 := rfl; omega)
            have g2_ : own_N [x0, x1, x2, x3, x4, x5] 4 = true := decide_eq_true c39
            have g3_ : decide (5 < tn) = true := decide_eq_true (by have g_ := oltI c40; have q_ : ((5 : Int32)).toInt = 5 := rfl; omega)
            have g4_ : own_N [x0, x1, x2, x3, x4, x5] 5 = false := decide_eq_false c42
            have g5_ : decide (6 < tn) = false := decide_eq_false (by have g_ := onltI n43; have q_ : ((6 : Int32)).toInt = 6 := rfl; omega)
            refine H5 _ _ ⟨Or.inr ⟨_, rfl⟩, hE.trans ?_⟩ B
            rw [own_G_4, g1_, g2_, g3_, g4_, g5_]
            rfl
          refine W_iload B (hb hby d2_35) (pc' := 37) rfl rfl ?_
          refine W_iconst B (hb hby d2_37) (pc' := 38) rfl (z := (1 : Int32)) (by decide) ?_
          refine W_iadd B (hb hby d2_38) (pc' := 39) rfl (z := (6 : Int32)) (by decide) ?_
          refine W_retI B hret (hb hby d2_39) (by decide) ?_
          have g1_ : decide (4 < tn) = true := decide_eq_true (by have g_ := oltI c38; have q_ : ((4 : Int32)).toInt = 4 := rfl; omega)
          have g2_ : own_N [x0, x1, x2, x3, x4, x5] 4 = true := decide_eq_true c39
          have g3_ : decide (5 < tn) = true := decide_eq_true (by have g_ := oltI c40; have q_ : ((5 : Int32)).toInt = 5 := rfl; omega)
          have g4_ : own_N [x0, x1, x2, x3, x4, x5] 5 = true := decide_eq_true c42
          refine ⟨?_, rfl⟩
          rw [hE, own_G_4, g1_, g2_, g3_, g4_]
          rfl
      · intro s4_ T hz B
        obtain ⟨hs4, hE⟩ := hz
        refine W_iloadN B (hb hby d2_2) (pc' := 3) rfl rfl ?_
        refine W_iloadN B (hb hby d2_3) (pc' := 4) rfl rfl ?_
        refine W_icmp_ge B (hb hby d2_4) (by decide) (pt := 79) (by decide) (pc' := 7) rfl (fun (c34 : ¬ (5 : Int32) < t1) => ?_) (fun (c34 : (5 : Int32) < t1) => ?_)
        · refine W_iconst B (hb hby d2_79) (pc' := 80) rfl (z := (-1 : Int32)) (by decide) ?_
          refine W_retI B hret (hb hby d2_80) (by decide) ?_
          have g1_ : decide (5 < tn) = false := decide_eq_false (by have g_ := onltI c34; have q_ : ((5 : Int32)).toInt = 5 := rfl; omega)
          refine ⟨?_, rfl⟩
          rw [hE, own_G_5, g1_]
          rfl
        refine W_aloadN B (hb hby d2_7) (pc' := 8) rfl rfl rfl ?_
        refine W_iloadN B (hb hby d2_8) (pc' := 9) rfl rfl ?_
        refine W_baload B (hb hby d2_9) (pc' := 10) rfl (i := 0) rfl (by decide) (v := (.int x5)) rfl ?_
        refine W_bipush B (hb hby d2_10) (pc' := 12) rfl (z := (10 : Int32)) (by decide) ?_
        refine W_icmp_ne B (hb hby d2_12) (by decide) (pt := 73) (by decide) (pc' := 15) rfl (fun (c35 : ¬ x5 = (10 : Int32)) => ?_) (fun (c35 : x5 = (10 : Int32)) => ?_)
        · refine W_iinc B (hb hby d2_73) (pc' := 76) rfl rfl (z := (6 : Int32)) (by decide) (ls' := #[.val (.ref a1), .val (.int f1), .val (.int t1), .val (.int (6 : Int32)), s4_]) rfl ?_
          refine W_goto B (hb hby d2_76) (by decide) (pc' := 2) (by decide) ?_
          have g1_ : decide (5 < tn) = true := decide_eq_true (by have g_ := oltI c34; have q_ : ((5 : Int32)).toInt = 5 := rfl; omega)
          have g2_ : own_N [x0, x1, x2, x3, x4, x5] 5 = false := decide_eq_false c35
          refine H6 _ _ ⟨hs4, hE.trans ?_⟩ B
          rw [own_G_5, g1_, g2_]
          rfl
        refine W_iloadN B (hb hby d2_15) (pc' := 16) rfl rfl ?_
        refine W_iconst B (hb hby d2_16) (pc' := 17) rfl (z := (1 : Int32)) (by decide) ?_
        refine W_iadd B (hb hby d2_17) (pc' := 18) rfl (z := (6 : Int32)) (by decide) ?_
        refine W_istore B (hb hby d2_18) (pc' := 20) rfl (v := (6 : Int32)) rfl (ls' := #[.val (.ref a1), .val (.int f1), .val (.int t1), .val (.int (5 : Int32)), .val (.int (6 : Int32))]) (own_st hs4) ?_
        refine W_iload B (hb hby d2_20) (pc' := 22) rfl rfl ?_
        refine W_iloadN B (hb hby d2_22) (pc' := 23) rfl rfl ?_
        have n36 : ¬ (6 : Int32) < t1 := by
          refine onltI_i ?_
          have fq1 : ((6 : Int32)).toInt = 6 := rfl
          have fq2 := orI t1
          have fq3 := orI f1
          have fq4 := hf
          have fq5 := hfr
          have fq6 := ht
          have fq7 := htn
          have fq8 : ((5 : Int32)).toInt = 5 := rfl
          have fq9 := oltI c34
          have fq10 := orI x5
          have fq11 : ((10 : Int32)).toInt = 10 := rfl
          have fq12 := oeqI c35
          omega
        refine W_icmpY B (hb hby d2_23) (by decide) (pc' := 40) (by decide) (flt n36).2.1 ?_
        refine W_iload B (hb hby d2_40) (pc' := 42) rfl rfl ?_
        refine W_iconst B (hb hby d2_42) (pc' := 43) rfl (z := (1 : Int32)) (by decide) ?_
        refine W_iadd B (hb hby d2_43) (pc' := 44) rfl (z := (7 : Int32)) (by decide) ?_
        refine W_iloadN B (hb hby d2_44) (pc' := 45) rfl rfl ?_
        have n37 : ¬ (7 : Int32) < t1 := by
          refine onltI_i ?_
          have fq1 : ((7 : Int32)).toInt = 7 := rfl
          have fq2 := orI t1
          have fq3 := orI f1
          have fq4 := hf
          have fq5 := hfr
          have fq6 := ht
          have fq7 := htn
          have fq8 : ((5 : Int32)).toInt = 5 := rfl
          have fq9 := oltI c34
          have fq10 := orI x5
          have fq11 : ((10 : Int32)).toInt = 10 := rfl
          have fq12 := oeqI c35
          have fq13 : ((6 : Int32)).toInt = 6 := rfl
          have fq14 := onltI n36
          omega
        refine W_icmpY B (hb hby d2_45) (by decide) (pc' := 73) (by decide) (flt n37).2.1 ?_
        refine W_iinc B (hb hby d2_73) (pc' := 76) rfl rfl (z := (6 : Int32)) (by decide) (ls' := #[.val (.ref a1), .val (.int f1), .val (.int t1), .val (.int (6 : Int32)), .val (.int (6 : Int32))]) rfl ?_
        refine W_goto B (hb hby d2_76) (by decide) (pc' := 2) (by decide) ?_
        have g1_ : decide (5 < tn) = true := decide_eq_true (by have g_ := oltI c34; have q_ : ((5 : Int32)).toInt = 5 := rfl; omega)
        have g2_ : own_N [x0, x1, x2, x3, x4, x5] 5 = true := decide_eq_true c35
        have g3_ : decide (6 < tn) = false := decide_eq_false (by have g_ := onltI n36; have q_ : ((6 : Int32)).toInt = 6 := rfl; omega)
        have g4_ : decide (7 < tn) = false := decide_eq_false (by have g_ := onltI n37; have q_ : ((7 : Int32)).toInt = 7 := rfl; omega)
        refine H6 _ _ ⟨Or.inr ⟨_, rfl⟩, hE.trans ?_⟩ B
        rw [own_G_5, g1_, g2_, g3_, g4_]
        rfl
    · intro s4_ T hz B
      obtain ⟨hs4, hE⟩ := hz
      refine W_iloadN B (hb hby d2_2) (pc' := 3) rfl rfl ?_
      refine W_iloadN B (hb hby d2_3) (pc' := 4) rfl rfl ?_
      have n33 : ¬ (6 : Int32) < t1 := by
        refine onltI_i ?_
        have fq1 : ((6 : Int32)).toInt = 6 := rfl
        have fq2 := orI t1
        have fq3 := orI f1
        have fq4 := hf
        have fq5 := hfr
        have fq6 := ht
        have fq7 := htn
        omega
      refine W_icmpY B (hb hby d2_4) (by decide) (pc' := 79) (by decide) (flt n33).2.1 ?_
      refine W_iconst B (hb hby d2_79) (pc' := 80) rfl (z := (-1 : Int32)) (by decide) ?_
      refine W_retI B hret (hb hby d2_80) (by decide) ?_
      have g1_ : decide (6 < tn) = false := decide_eq_false (by have g_ := onltI n33; have q_ : ((6 : Int32)).toInt = 6 := rfl; omega)
      refine ⟨?_, rfl⟩
      rw [hE, own_G_6, g1_]
      rfl
  · intro s4_ T hz B
    obtain ⟨hs4, hE⟩ := hz
    refine W_iloadN B (hb hby d2_2) (pc' := 3) rfl rfl ?_
    refine W_iloadN B (hb hby d2_3) (pc' := 4) rfl rfl ?_
    have n32 : ¬ (7 : Int32) < t1 := by
      refine onltI_i ?_
      have fq1 : ((7 : Int32)).toInt = 7 := rfl
      have fq2 := orI t1
      have fq3 := orI f1
      have fq4 := hf
      have fq5 := hfr
      have fq6 := ht
      have fq7 := htn
      omega
    refine W_icmpY B (hb hby d2_4) (by decide) (pc' := 79) (by decide) (flt n32).2.1 ?_
    refine W_iconst B (hb hby d2_79) (pc' := 80) rfl (z := (-1 : Int32)) (by decide) ?_
    refine W_retI B hret (hb hby d2_80) (by decide) ?_
    have g1_ : decide (7 < tn) = false := decide_eq_false (by have g_ := onltI n32; have q_ : ((7 : Int32)).toInt = 7 := rfl; omega)
    refine ⟨?_, rfl⟩
    rw [hE, own_G_7, g1_]
    rfl
theorem pd_0 : parseMethodDescriptor "(IJI)B" = some ⟨[.int, .long, .int], some .byte⟩ := by decide +kernel
theorem pd_1 : parseMethodDescriptor "([BII)Z" = some ⟨[(.array .byte), .int, .int], some .boolean⟩ := by decide +kernel
theorem pd_2 : parseMethodDescriptor "([BII)I" = some ⟨[(.array .byte), .int, .int], some .int⟩ := by decide +kernel
theorem ef_rm0 (m : MethodId) (x0 : Int32) (x1 : Int64) (x2 : Int32) (x3 : Int32) : entryFrame m #[(.int x0), (.long x1), (.int x2), (.int x3)] maxLocals = mkF m 0 #[.val (.int x0), .val (.long x1), .second, .val (.int x2), .val (.int x3), .unset, .unset, .unset, .unset] [] := by first | (simp [entryFrame, mkF, argsToLocals, Value.category, maxLocals]; done) | rfl
set_option maxRecDepth 65536 in
set_option maxHeartbeats 40000000 in
theorem rm0 (l : Launch) (Z : State) (a0 : Array Value) (hw : ∀ d ∈ tables_1, d.before a0 Z = true) (h0 : Heap) {lo : Nat} (a1 : Int32) (a2 : Int64) (a3 : Int32) (a4 : Int32) :
    oMet l Z h0 lo x code maxLocals ret tables_1 room_1 #[(.int a1), (.long a2), (.int a3), (.int a4)] [] (fun (v : Option Value) (_ : oDs) => v = some (.int 1)) := by
  refine oMet.of_body (plainFor_of_name pn_0) ?_
  intro p e s m below meth c T B hby hml hown hnm hret
  refine W_entry (ef_rm0 m a1 a2 a3 a4) ?_
  have hml : c.maxLocals = 9 := hml
  refine W_bipush B (hb hby at_0) (pc' := 2) rfl (z := (6 : Int32)) (by decide) ?_
  refine W_newarray B (ow hw (i := 0) rfl) (hb hby at_2) (pc' := 4) rfl (by decide) (cap := 6) (by decide) (by decide) (cells' := 1) rfl (slots' := 6) rfl (vs := [(.int (0 : Int32)), (.int (0 : Int32)), (.int (0 : Int32)), (.int (0 : Int32)), (.int (0 : Int32)), (.int (0 : Int32))]) rfl (ty := .byte) rfl ?_
  intro T b76 B
  refine W_astore B (hb hby at_4) (pc' := 6) rfl rfl (ls' := #[.val (.int a1), .val (.long a2), .second, .val (.int a3), .val (.int a4), .val (.ref b76), .unset, .unset, .unset]) rfl ?_
  refine W_aload B (hb hby at_6) (pc' := 8) rfl rfl rfl ?_
  refine W_iconst B (hb hby at_8) (pc' := 9) rfl (z := (0 : Int32)) (by decide) ?_
  refine W_iloadN B (hb hby at_9) (pc' := 10) rfl rfl ?_
  refine W_lloadN B (hb hby at_10) (pc' := 11) rfl rfl ?_
  refine W_iconst B (hb hby at_11) (pc' := 12) rfl (z := (0 : Int32)) (by decide) ?_
  refine W_callS B (y := (⟨"com/example/hash_for_once/hashforonce/api/RequestHeadEndPinLaw", "pick", "(IJI)B"⟩ : MethodName)) hown (ow hw (i := 1) rfl) (ow hw (i := 2) rfl) (ow hw (i := 3) rfl) (ow hw (i := 4) rfl) (by decide) (rm1 l Z a0 hw h0 a1 a2 (0 : Int32) [(b76, oA .byte [o0, o0, o0, o0, o0, o0])]) (lenOf pd_0 rfl) (hb hby at_12) (pc' := 15) rfl (argsL := [(.int a1), (.long a2), (.int (0 : Int32))]) (rest := [(.int (0 : Int32)), (.ref b76)]) rfl (by rw [hml]; rfl) (W := 2) (oLe rfl) (by decide) (cells' := 1) rfl (slots' := 6) rfl ?_
  intro T v_ d_ q_ B
  obtain ⟨z77, rfl, rfl⟩ := q_
  show oWin p e below Z h0 _ _ (T.setTop (mkF m 15 #[.val (.int a1), .val (.long a2), .second, .val (.int a3), .val (.int a4), .val (.ref b76), .unset, .unset, .unset] [(.int z77), (.int (0 : Int32)), (.ref b76)]))
  refine W_bastore B (hb hby at_15) (pc' := 16) rfl (i := 0) rfl (by decide) (oLt rfl) (ds' := [(b76, oA .byte [(.int (nar .byte z77)), o0, o0, o0, o0, o0])]) rfl ?_
  intro T B
  refine W_aload B (hb hby at_16) (pc' := 18) rfl rfl rfl ?_
  refine W_iconst B (hb hby at_18) (pc' := 19) rfl (z := (1 : Int32)) (by decide) ?_
  refine W_iloadN B (hb hby at_19) (pc' := 20) rfl rfl ?_
  refine W_lloadN B (hb hby at_20) (pc' := 21) rfl rfl ?_
  refine W_iconst B (hb hby at_21) (pc' := 22) rfl (z := (1 : Int32)) (by decide) ?_
  refine W_callS B (y := (⟨"com/example/hash_for_once/hashforonce/api/RequestHeadEndPinLaw", "pick", "(IJI)B"⟩ : MethodName)) hown (ow hw (i := 1) rfl) (ow hw (i := 2) rfl) (ow hw (i := 3) rfl) (ow hw (i := 4) rfl) (by decide) (rm1 l Z a0 hw h0 a1 a2 (1 : Int32) [(b76, oA .byte [(.int (nar .byte z77)), o0, o0, o0, o0, o0])]) (lenOf pd_0 rfl) (hb hby at_22) (pc' := 25) rfl (argsL := [(.int a1), (.long a2), (.int (1 : Int32))]) (rest := [(.int (1 : Int32)), (.ref b76)]) rfl (by rw [hml]; rfl) (W := 2) (oLe rfl) (by decide) (cells' := 1) rfl (slots' := 6) rfl ?_
  intro T v_ d_ q_ B
  obtain ⟨z78, rfl, rfl⟩ := q_
  show oWin p e below Z h0 _ _ (T.setTop (mkF m 25 #[.val (.int a1), .val (.long a2), .second, .val (.int a3), .val (.int a4), .val (.ref b76), .unset, .unset, .unset] [(.int z78), (.int (1 : Int32)), (.ref b76)]))
  refine W_bastore B (hb hby at_25) (pc' := 26) rfl (i := 0) rfl (by decide) (oLt rfl) (ds' := [(b76, oA .byte [(.int (nar .byte z77)), (.int (nar .byte z78)), o0, o0, o0, o0])]) rfl ?_
  intro T B
  refine W_aload B (hb hby at_26) (pc' := 28) rfl rfl rfl ?_
  refine W_iconst B (hb hby at_28) (pc' := 29) rfl (z := (2 : Int32)) (by decide) ?_
  refine W_iloadN B (hb hby at_29) (pc' := 30) rfl rfl ?_
  refine W_lloadN B (hb hby at_30) (pc' := 31) rfl rfl ?_
  refine W_iconst B (hb hby at_31) (pc' := 32) rfl (z := (2 : Int32)) (by decide) ?_
  refine W_callS B (y := (⟨"com/example/hash_for_once/hashforonce/api/RequestHeadEndPinLaw", "pick", "(IJI)B"⟩ : MethodName)) hown (ow hw (i := 1) rfl) (ow hw (i := 2) rfl) (ow hw (i := 3) rfl) (ow hw (i := 4) rfl) (by decide) (rm1 l Z a0 hw h0 a1 a2 (2 : Int32) [(b76, oA .byte [(.int (nar .byte z77)), (.int (nar .byte z78)), o0, o0, o0, o0])]) (lenOf pd_0 rfl) (hb hby at_32) (pc' := 35) rfl (argsL := [(.int a1), (.long a2), (.int (2 : Int32))]) (rest := [(.int (2 : Int32)), (.ref b76)]) rfl (by rw [hml]; rfl) (W := 2) (oLe rfl) (by decide) (cells' := 1) rfl (slots' := 6) rfl ?_
  intro T v_ d_ q_ B
  obtain ⟨z79, rfl, rfl⟩ := q_
  show oWin p e below Z h0 _ _ (T.setTop (mkF m 35 #[.val (.int a1), .val (.long a2), .second, .val (.int a3), .val (.int a4), .val (.ref b76), .unset, .unset, .unset] [(.int z79), (.int (2 : Int32)), (.ref b76)]))
  refine W_bastore B (hb hby at_35) (pc' := 36) rfl (i := 0) rfl (by decide) (oLt rfl) (ds' := [(b76, oA .byte [(.int (nar .byte z77)), (.int (nar .byte z78)), (.int (nar .byte z79)), o0, o0, o0])]) rfl ?_
  intro T B
  refine W_aload B (hb hby at_36) (pc' := 38) rfl rfl rfl ?_
  refine W_iconst B (hb hby at_38) (pc' := 39) rfl (z := (3 : Int32)) (by decide) ?_
  refine W_iloadN B (hb hby at_39) (pc' := 40) rfl rfl ?_
  refine W_lloadN B (hb hby at_40) (pc' := 41) rfl rfl ?_
  refine W_iconst B (hb hby at_41) (pc' := 42) rfl (z := (3 : Int32)) (by decide) ?_
  refine W_callS B (y := (⟨"com/example/hash_for_once/hashforonce/api/RequestHeadEndPinLaw", "pick", "(IJI)B"⟩ : MethodName)) hown (ow hw (i := 1) rfl) (ow hw (i := 2) rfl) (ow hw (i := 3) rfl) (ow hw (i := 4) rfl) (by decide) (rm1 l Z a0 hw h0 a1 a2 (3 : Int32) [(b76, oA .byte [(.int (nar .byte z77)), (.int (nar .byte z78)), (.int (nar .byte z79)), o0, o0, o0])]) (lenOf pd_0 rfl) (hb hby at_42) (pc' := 45) rfl (argsL := [(.int a1), (.long a2), (.int (3 : Int32))]) (rest := [(.int (3 : Int32)), (.ref b76)]) rfl (by rw [hml]; rfl) (W := 2) (oLe rfl) (by decide) (cells' := 1) rfl (slots' := 6) rfl ?_
  intro T v_ d_ q_ B
  obtain ⟨z80, rfl, rfl⟩ := q_
  show oWin p e below Z h0 _ _ (T.setTop (mkF m 45 #[.val (.int a1), .val (.long a2), .second, .val (.int a3), .val (.int a4), .val (.ref b76), .unset, .unset, .unset] [(.int z80), (.int (3 : Int32)), (.ref b76)]))
  refine W_bastore B (hb hby at_45) (pc' := 46) rfl (i := 0) rfl (by decide) (oLt rfl) (ds' := [(b76, oA .byte [(.int (nar .byte z77)), (.int (nar .byte z78)), (.int (nar .byte z79)), (.int (nar .byte z80)), o0, o0])]) rfl ?_
  intro T B
  refine W_aload B (hb hby at_46) (pc' := 48) rfl rfl rfl ?_
  refine W_iconst B (hb hby at_48) (pc' := 49) rfl (z := (4 : Int32)) (by decide) ?_
  refine W_iloadN B (hb hby at_49) (pc' := 50) rfl rfl ?_
  refine W_lloadN B (hb hby at_50) (pc' := 51) rfl rfl ?_
  refine W_iconst B (hb hby at_51) (pc' := 52) rfl (z := (4 : Int32)) (by decide) ?_
  refine W_callS B (y := (⟨"com/example/hash_for_once/hashforonce/api/RequestHeadEndPinLaw", "pick", "(IJI)B"⟩ : MethodName)) hown (ow hw (i := 1) rfl) (ow hw (i := 2) rfl) (ow hw (i := 3) rfl) (ow hw (i := 4) rfl) (by decide) (rm1 l Z a0 hw h0 a1 a2 (4 : Int32) [(b76, oA .byte [(.int (nar .byte z77)), (.int (nar .byte z78)), (.int (nar .byte z79)), (.int (nar .byte z80)), o0, o0])]) (lenOf pd_0 rfl) (hb hby at_52) (pc' := 55) rfl (argsL := [(.int a1), (.long a2), (.int (4 : Int32))]) (rest := [(.int (4 : Int32)), (.ref b76)]) rfl (by rw [hml]; rfl) (W := 2) (oLe rfl) (by decide) (cells' := 1) rfl (slots' := 6) rfl ?_
  intro T v_ d_ q_ B
  obtain ⟨z81, rfl, rfl⟩ := q_
  show oWin p e below Z h0 _ _ (T.setTop (mkF m 55 #[.val (.int a1), .val (.long a2), .second, .val (.int a3), .val (.int a4), .val (.ref b76), .unset, .unset, .unset] [(.int z81), (.int (4 : Int32)), (.ref b76)]))
  refine W_bastore B (hb hby at_55) (pc' := 56) rfl (i := 0) rfl (by decide) (oLt rfl) (ds' := [(b76, oA .byte [(.int (nar .byte z77)), (.int (nar .byte z78)), (.int (nar .byte z79)), (.int (nar .byte z80)), (.int (nar .byte z81)), o0])]) rfl ?_
  intro T B
  refine W_aload B (hb hby at_56) (pc' := 58) rfl rfl rfl ?_
  refine W_iconst B (hb hby at_58) (pc' := 59) rfl (z := (5 : Int32)) (by decide) ?_
  refine W_iloadN B (hb hby at_59) (pc' := 60) rfl rfl ?_
  refine W_lloadN B (hb hby at_60) (pc' := 61) rfl rfl ?_
  refine W_iconst B (hb hby at_61) (pc' := 62) rfl (z := (5 : Int32)) (by decide) ?_
  refine W_callS B (y := (⟨"com/example/hash_for_once/hashforonce/api/RequestHeadEndPinLaw", "pick", "(IJI)B"⟩ : MethodName)) hown (ow hw (i := 1) rfl) (ow hw (i := 2) rfl) (ow hw (i := 3) rfl) (ow hw (i := 4) rfl) (by decide) (rm1 l Z a0 hw h0 a1 a2 (5 : Int32) [(b76, oA .byte [(.int (nar .byte z77)), (.int (nar .byte z78)), (.int (nar .byte z79)), (.int (nar .byte z80)), (.int (nar .byte z81)), o0])]) (lenOf pd_0 rfl) (hb hby at_62) (pc' := 65) rfl (argsL := [(.int a1), (.long a2), (.int (5 : Int32))]) (rest := [(.int (5 : Int32)), (.ref b76)]) rfl (by rw [hml]; rfl) (W := 2) (oLe rfl) (by decide) (cells' := 1) rfl (slots' := 6) rfl ?_
  intro T v_ d_ q_ B
  obtain ⟨z82, rfl, rfl⟩ := q_
  show oWin p e below Z h0 _ _ (T.setTop (mkF m 65 #[.val (.int a1), .val (.long a2), .second, .val (.int a3), .val (.int a4), .val (.ref b76), .unset, .unset, .unset] [(.int z82), (.int (5 : Int32)), (.ref b76)]))
  refine W_bastore B (hb hby at_65) (pc' := 66) rfl (i := 0) rfl (by decide) (oLt rfl) (ds' := [(b76, oA .byte [(.int (nar .byte z77)), (.int (nar .byte z78)), (.int (nar .byte z79)), (.int (nar .byte z80)), (.int (nar .byte z81)), (.int (nar .byte z82))])]) rfl ?_
  intro T B
  refine W_iloadN B (hb hby at_66) (pc' := 67) rfl rfl ?_
  refine W_ldcInt B hown (ow hw (i := 5) rfl) (hb hby at_67) (pc' := 69) rfl ?_
  refine W_iand B (hb hby at_69) (pc' := 70) rfl (z := (a3 &&& (2147483647 : Int32))) rfl ?_
  refine W_bipush B (hb hby at_70) (pc' := 72) rfl (z := (8 : Int32)) (by decide) ?_
  refine W_irem B (hb hby at_72) (pc' := 73) rfl (by decide) (z := ((a3 &&& (2147483647 : Int32)) % (8 : Int32))) rfl ?_
  obtain ⟨v83, hv83⟩ : ∃ z : Int32, z = ((a3 &&& (2147483647 : Int32)) % (8 : Int32)) := ⟨_, rfl⟩
  refine W_istore B (hb hby at_73) (pc' := 75) rfl (v := v83) hv83.symm (ls' := #[.val (.int a1), .val (.long a2), .second, .val (.int a3), .val (.int a4), .val (.ref b76), .val (.int v83), .unset, .unset]) rfl ?_
  refine W_iload B (hb hby at_75) (pc' := 77) rfl rfl ?_
  refine W_ldcInt B hown (ow hw (i := 5) rfl) (hb hby at_77) (pc' := 79) rfl ?_
  refine W_iand B (hb hby at_79) (pc' := 80) rfl (z := (a4 &&& (2147483647 : Int32))) rfl ?_
  refine W_bipush B (hb hby at_80) (pc' := 82) rfl (z := (7 : Int32)) (by decide) ?_
  refine W_irem B (hb hby at_82) (pc' := 83) rfl (by decide) (z := ((a4 &&& (2147483647 : Int32)) % (7 : Int32))) rfl ?_
  obtain ⟨v84, hv84⟩ : ∃ z : Int32, z = ((a4 &&& (2147483647 : Int32)) % (7 : Int32)) := ⟨_, rfl⟩
  refine W_istore B (hb hby at_83) (pc' := 85) rfl (v := v84) hv84.symm (ls' := #[.val (.int a1), .val (.long a2), .second, .val (.int a3), .val (.int a4), .val (.ref b76), .val (.int v83), .val (.int v84), .unset]) rfl ?_
  refine W_iconst B (hb hby at_85) (pc' := 86) rfl (z := (-1 : Int32)) (by decide) ?_
  refine W_istore B (hb hby at_86) (pc' := 88) rfl (v := (-1 : Int32)) rfl (ls' := #[.val (.int a1), .val (.long a2), .second, .val (.int a3), .val (.int a4), .val (.ref b76), .val (.int v83), .val (.int v84), .val (.int (-1 : Int32))]) rfl ?_
  obtain ⟨fr, hfr, hf⟩ := own_rem hv83 (k := 8) rfl (by decide) (by decide)
  obtain ⟨tn, htn, ht⟩ := own_rem hv84 (k := 7) rfl (by decide) (by decide)
  refine oJoin B (fun z : Int32 => z = Int32.ofInt (own_S (own_N [(nar .byte z77), (nar .byte z78), (nar .byte z79), (nar .byte z80), (nar .byte z81), (nar .byte z82)]) (own_C [(nar .byte z77), (nar .byte z78), (nar .byte z79), (nar .byte z80), (nar .byte z81), (nar .byte z82)]) fr tn 6 (-1))) (fun z => (mkF m 111 #[.val (.int a1), .val (.long a2), .second, .val (.int a3), .val (.int a4), .val (.ref b76), .val (.int v83), .val (.int v84), .val (.int z)] [])) ?_ ?_
  · intro kJ
    refine W_iload B (hb hby at_88) (pc' := 90) rfl rfl ?_
    refine W_bipush B (hb hby at_90) (pc' := 92) rfl (z := (6 : Int32)) (by decide) ?_
    refine W_icmp_lt B (hb hby at_92) (by decide) (pt := 111) (by decide) (pc' := 95) rfl (fun (c85 : v84 < (6 : Int32)) => ?_) (fun (c85 : ¬ v84 < (6 : Int32)) => ?_)
    · have g1_ : decide (6 ≤ tn) = false := decide_eq_false (by have g_ := oltI c85; have q_ : (6 : Int32).toInt = 6 := rfl; omega)
      refine kJ _ _ ?_ B
      show _ = Int32.ofInt (bif decide (6 ≤ tn) && _ then _ else _)
      rw [g1_]
      rfl
    refine W_aload B (hb hby at_95) (pc' := 97) rfl rfl rfl ?_
    refine W_iload B (hb hby at_97) (pc' := 99) rfl rfl ?_
    refine W_bipush B (hb hby at_99) (pc' := 101) rfl (z := (6 : Int32)) (by decide) ?_
    refine W_callS B (y := (⟨"com/example/hash_for_once/hashforonce/api/RequestHeadEndPinLaw", "emptyLineEndsAt", "([BII)Z"⟩ : MethodName)) hown (ow hw (i := 10) rfl) (ow hw (i := 11) rfl) (ow hw (i := 3) rfl) (ow hw (i := 12) rfl) (by decide) (rm3_6 l Z a0 hw h0 b76 v83 (nar .byte z77) (nar .byte z78) (nar .byte z79) (nar .byte z80) (nar .byte z81) (nar .byte z82) fr [] hf) (lenOf pd_1 rfl) (hb hby at_101) (pc' := 104) rfl (argsL := [(.ref b76), (.int v83), (.int (6 : Int32))]) (rest := []) rfl (by rw [hml]; rfl) (W := 0) (oLe rfl) (by decide) (cells' := 1) rfl (slots' := 6) rfl ?_
    intro T v_ d_ q_ B
    rcases q_ with ⟨q86, rfl, rfl⟩ | ⟨q87, rfl, rfl⟩
    · show oWin p e below Z h0 _ _ (T.setTop (mkF m 104 #[.val (.int a1), .val (.long a2), .second, .val (.int a3), .val (.int a4), .val (.ref b76), .val (.int v83), .val (.int v84), .val (.int (-1 : Int32))] [(.int (1 : Int32))]))
      refine W_ifN B (hb hby at_104) (pc' := 107) rfl (by decide) ?_
      refine W_bipush B (hb hby at_107) (pc' := 109) rfl (z := (6 : Int32)) (by decide) ?_
      refine W_istore B (hb hby at_109) (pc' := 111) rfl (v := (6 : Int32)) rfl (ls' := #[.val (.int a1), .val (.long a2), .second, .val (.int a3), .val (.int a4), .val (.ref b76), .val (.int v83), .val (.int v84), .val (.int (6 : Int32))]) rfl ?_
      have g1_ : decide (6 ≤ tn) = true := decide_eq_true (by have g_ := onltI c85; have q_ : (6 : Int32).toInt = 6 := rfl; omega)
      refine kJ _ _ ?_ B
      show _ = Int32.ofInt (bif decide (6 ≤ tn) && own_A _ _ fr 6 then _ else _)
      rw [g1_, q86]
      rfl
    show oWin p e below Z h0 _ _ (T.setTop (mkF m 104 #[.val (.int a1), .val (.long a2), .second, .val (.int a3), .val (.int a4), .val (.ref b76), .val (.int v83), .val (.int v84), .val (.int (-1 : Int32))] [(.int (0 : Int32))]))
    refine W_ifY B (hb hby at_104) (by decide) (pc' := 111) (by decide) (by decide) ?_
    have g1_ : decide (6 ≤ tn) = true := decide_eq_true (by have g_ := onltI c85; have q_ : (6 : Int32).toInt = 6 := rfl; omega)
    refine kJ _ _ ?_ B
    show _ = Int32.ofInt (bif decide (6 ≤ tn) && own_A _ _ fr 6 then _ else _)
    rw [g1_, q87]
    rfl
  intro z88 T hz B
  refine oJoin B (fun z : Int32 => z = Int32.ofInt (own_S (own_N [(nar .byte z77), (nar .byte z78), (nar .byte z79), (nar .byte z80), (nar .byte z81), (nar .byte z82)]) (own_C [(nar .byte z77), (nar .byte z78), (nar .byte z79), (nar .byte z80), (nar .byte z81), (nar .byte z82)]) fr tn 5 (own_S (own_N [(nar .byte z77), (nar .byte z78), (nar .byte z79), (nar .byte z80), (nar .byte z81), (nar .byte z82)]) (own_C [(nar .byte z77), (nar .byte z78), (nar .byte z79), (nar .byte z80), (nar .byte z81), (nar .byte z82)]) fr tn 6 (-1)))) (fun z => (mkF m 131 #[.val (.int a1), .val (.long a2), .second, .val (.int a3), .val (.int a4), .val (.ref b76), .val (.int v83), .val (.int v84), .val (.int z)] [])) ?_ ?_
  · intro kJ
    refine W_iload B (hb hby at_111) (pc' := 113) rfl rfl ?_
    refine W_iconst B (hb hby at_113) (pc' := 114) rfl (z := (5 : Int32)) (by decide) ?_
    refine W_icmp_lt B (hb hby at_114) (by decide) (pt := 131) (by decide) (pc' := 117) rfl (fun (c89 : v84 < (5 : Int32)) => ?_) (fun (c89 : ¬ v84 < (5 : Int32)) => ?_)
    · have g1_ : decide (5 ≤ tn) = false := decide_eq_false (by have g_ := oltI c89; have q_ : (5 : Int32).toInt = 5 := rfl; omega)
      refine kJ _ _ ?_ B
      show _ = Int32.ofInt (bif decide (5 ≤ tn) && _ then _ else _)
      rw [g1_]
      exact hz
    refine W_aload B (hb hby at_117) (pc' := 119) rfl rfl rfl ?_
    refine W_iload B (hb hby at_119) (pc' := 121) rfl rfl ?_
    refine W_iconst B (hb hby at_121) (pc' := 122) rfl (z := (5 : Int32)) (by decide) ?_
    refine W_callS B (y := (⟨"com/example/hash_for_once/hashforonce/api/RequestHeadEndPinLaw", "emptyLineEndsAt", "([BII)Z"⟩ : MethodName)) hown (ow hw (i := 10) rfl) (ow hw (i := 11) rfl) (ow hw (i := 3) rfl) (ow hw (i := 12) rfl) (by decide) (rm3_5 l Z a0 hw h0 b76 v83 (nar .byte z77) (nar .byte z78) (nar .byte z79) (nar .byte z80) (nar .byte z81) (nar .byte z82) fr [] hf) (lenOf pd_1 rfl) (hb hby at_122) (pc' := 125) rfl (argsL := [(.ref b76), (.int v83), (.int (5 : Int32))]) (rest := []) rfl (by rw [hml]; rfl) (W := 0) (oLe rfl) (by decide) (cells' := 1) rfl (slots' := 6) rfl ?_
    intro T v_ d_ q_ B
    rcases q_ with ⟨q90, rfl, rfl⟩ | ⟨q91, rfl, rfl⟩
    · show oWin p e below Z h0 _ _ (T.setTop (mkF m 125 #[.val (.int a1), .val (.long a2), .second, .val (.int a3), .val (.int a4), .val (.ref b76), .val (.int v83), .val (.int v84), .val (.int z88)] [(.int (1 : Int32))]))
      refine W_ifN B (hb hby at_125) (pc' := 128) rfl (by decide) ?_
      refine W_iconst B (hb hby at_128) (pc' := 129) rfl (z := (5 : Int32)) (by decide) ?_
      refine W_istore B (hb hby at_129) (pc' := 131) rfl (v := (5 : Int32)) rfl (ls' := #[.val (.int a1), .val (.long a2), .second, .val (.int a3), .val (.int a4), .val (.ref b76), .val (.int v83), .val (.int v84), .val (.int (5 : Int32))]) rfl ?_
      have g1_ : decide (5 ≤ tn) = true := decide_eq_true (by have g_ := onltI c89; have q_ : (5 : Int32).toInt = 5 := rfl; omega)
      refine kJ _ _ ?_ B
      show _ = Int32.ofInt (bif decide (5 ≤ tn) && own_A _ _ fr 5 then _ else _)
      rw [g1_, q90]
      rfl
    show oWin p e below Z h0 _ _ (T.setTop (mkF m 125 #[.val (.int a1), .val (.long a2), .second, .val (.int a3), .val (.int a4), .val (.ref b76), .val (.int v83), .val (.int v84), .val (.int z88)] [(.int (0 : Int32))]))
    refine W_ifY B (hb hby at_125) (by decide) (pc' := 131) (by decide) (by decide) ?_
    have g1_ : decide (5 ≤ tn) = true := decide_eq_true (by have g_ := onltI c89; have q_ : (5 : Int32).toInt = 5 := rfl; omega)
    refine kJ _ _ ?_ B
    show _ = Int32.ofInt (bif decide (5 ≤ tn) && own_A _ _ fr 5 then _ else _)
    rw [g1_, q91]
    exact hz
  intro z92 T hz B
  refine oJoin B (fun z : Int32 => z = Int32.ofInt (own_S (own_N [(nar .byte z77), (nar .byte z78), (nar .byte z79), (nar .byte z80), (nar .byte z81), (nar .byte z82)]) (own_C [(nar .byte z77), (nar .byte z78), (nar .byte z79), (nar .byte z80), (nar .byte z81), (nar .byte z82)]) fr tn 4 (own_S (own_N [(nar .byte z77), (nar .byte z78), (nar .byte z79), (nar .byte z80), (nar .byte z81), (nar .byte z82)]) (own_C [(nar .byte z77), (nar .byte z78), (nar .byte z79), (nar .byte z80), (nar .byte z81), (nar .byte z82)]) fr tn 5 (own_S (own_N [(nar .byte z77), (nar .byte z78), (nar .byte z79), (nar .byte z80), (nar .byte z81), (nar .byte z82)]) (own_C [(nar .byte z77), (nar .byte z78), (nar .byte z79), (nar .byte z80), (nar .byte z81), (nar .byte z82)]) fr tn 6 (-1))))) (fun z => (mkF m 151 #[.val (.int a1), .val (.long a2), .second, .val (.int a3), .val (.int a4), .val (.ref b76), .val (.int v83), .val (.int v84), .val (.int z)] [])) ?_ ?_
  · intro kJ
    refine W_iload B (hb hby at_131) (pc' := 133) rfl rfl ?_
    refine W_iconst B (hb hby at_133) (pc' := 134) rfl (z := (4 : Int32)) (by decide) ?_
    refine W_icmp_lt B (hb hby at_134) (by decide) (pt := 151) (by decide) (pc' := 137) rfl (fun (c93 : v84 < (4 : Int32)) => ?_) (fun (c93 : ¬ v84 < (4 : Int32)) => ?_)
    · have g1_ : decide (4 ≤ tn) = false := decide_eq_false (by have g_ := oltI c93; have q_ : (4 : Int32).toInt = 4 := rfl; omega)
      refine kJ _ _ ?_ B
      show _ = Int32.ofInt (bif decide (4 ≤ tn) && _ then _ else _)
      rw [g1_]
      exact hz
    refine W_aload B (hb hby at_137) (pc' := 139) rfl rfl rfl ?_
    refine W_iload B (hb hby at_139) (pc' := 141) rfl rfl ?_
    refine W_iconst B (hb hby at_141) (pc' := 142) rfl (z := (4 : Int32)) (by decide) ?_
    refine W_callS B (y := (⟨"com/example/hash_for_once/hashforonce/api/RequestHeadEndPinLaw", "emptyLineEndsAt", "([BII)Z"⟩ : MethodName)) hown (ow hw (i := 10) rfl) (ow hw (i := 11) rfl) (ow hw (i := 3) rfl) (ow hw (i := 12) rfl) (by decide) (rm3_4 l Z a0 hw h0 b76 v83 (nar .byte z77) (nar .byte z78) (nar .byte z79) (nar .byte z80) (nar .byte z81) (nar .byte z82) fr [] hf) (lenOf pd_1 rfl) (hb hby at_142) (pc' := 145) rfl (argsL := [(.ref b76), (.int v83), (.int (4 : Int32))]) (rest := []) rfl (by rw [hml]; rfl) (W := 0) (oLe rfl) (by decide) (cells' := 1) rfl (slots' := 6) rfl ?_
    intro T v_ d_ q_ B
    rcases q_ with ⟨q94, rfl, rfl⟩ | ⟨q95, rfl, rfl⟩
    · show oWin p e below Z h0 _ _ (T.setTop (mkF m 145 #[.val (.int a1), .val (.long a2), .second, .val (.int a3), .val (.int a4), .val (.ref b76), .val (.int v83), .val (.int v84), .val (.int z92)] [(.int (1 : Int32))]))
      refine W_ifN B (hb hby at_145) (pc' := 148) rfl (by decide) ?_
      refine W_iconst B (hb hby at_148) (pc' := 149) rfl (z := (4 : Int32)) (by decide) ?_
      refine W_istore B (hb hby at_149) (pc' := 151) rfl (v := (4 : Int32)) rfl (ls' := #[.val (.int a1), .val (.long a2), .second, .val (.int a3), .val (.int a4), .val (.ref b76), .val (.int v83), .val (.int v84), .val (.int (4 : Int32))]) rfl ?_
      have g1_ : decide (4 ≤ tn) = true := decide_eq_true (by have g_ := onltI c93; have q_ : (4 : Int32).toInt = 4 := rfl; omega)
      refine kJ _ _ ?_ B
      show _ = Int32.ofInt (bif decide (4 ≤ tn) && own_A _ _ fr 4 then _ else _)
      rw [g1_, q94]
      rfl
    show oWin p e below Z h0 _ _ (T.setTop (mkF m 145 #[.val (.int a1), .val (.long a2), .second, .val (.int a3), .val (.int a4), .val (.ref b76), .val (.int v83), .val (.int v84), .val (.int z92)] [(.int (0 : Int32))]))
    refine W_ifY B (hb hby at_145) (by decide) (pc' := 151) (by decide) (by decide) ?_
    have g1_ : decide (4 ≤ tn) = true := decide_eq_true (by have g_ := onltI c93; have q_ : (4 : Int32).toInt = 4 := rfl; omega)
    refine kJ _ _ ?_ B
    show _ = Int32.ofInt (bif decide (4 ≤ tn) && own_A _ _ fr 4 then _ else _)
    rw [g1_, q95]
    exact hz
  intro z96 T hz B
  refine oJoin B (fun z : Int32 => z = Int32.ofInt (own_S (own_N [(nar .byte z77), (nar .byte z78), (nar .byte z79), (nar .byte z80), (nar .byte z81), (nar .byte z82)]) (own_C [(nar .byte z77), (nar .byte z78), (nar .byte z79), (nar .byte z80), (nar .byte z81), (nar .byte z82)]) fr tn 3 (own_S (own_N [(nar .byte z77), (nar .byte z78), (nar .byte z79), (nar .byte z80), (nar .byte z81), (nar .byte z82)]) (own_C [(nar .byte z77), (nar .byte z78), (nar .byte z79), (nar .byte z80), (nar .byte z81), (nar .byte z82)]) fr tn 4 (own_S (own_N [(nar .byte z77), (nar .byte z78), (nar .byte z79), (nar .byte z80), (nar .byte z81), (nar .byte z82)]) (own_C [(nar .byte z77), (nar .byte z78), (nar .byte z79), (nar .byte z80), (nar .byte z81), (nar .byte z82)]) fr tn 5 (own_S (own_N [(nar .byte z77), (nar .byte z78), (nar .byte z79), (nar .byte z80), (nar .byte z81), (nar .byte z82)]) (own_C [(nar .byte z77), (nar .byte z78), (nar .byte z79), (nar .byte z80), (nar .byte z81), (nar .byte z82)]) fr tn 6 (-1)))))) (fun z => (mkF m 171 #[.val (.int a1), .val (.long a2), .second, .val (.int a3), .val (.int a4), .val (.ref b76), .val (.int v83), .val (.int v84), .val (.int z)] [])) ?_ ?_
  · intro kJ
    refine W_iload B (hb hby at_151) (pc' := 153) rfl rfl ?_
    refine W_iconst B (hb hby at_153) (pc' := 154) rfl (z := (3 : Int32)) (by decide) ?_
    refine W_icmp_lt B (hb hby at_154) (by decide) (pt := 171) (by decide) (pc' := 157) rfl (fun (c97 : v84 < (3 : Int32)) => ?_) (fun (c97 : ¬ v84 < (3 : Int32)) => ?_)
    · have g1_ : decide (3 ≤ tn) = false := decide_eq_false (by have g_ := oltI c97; have q_ : (3 : Int32).toInt = 3 := rfl; omega)
      refine kJ _ _ ?_ B
      show _ = Int32.ofInt (bif decide (3 ≤ tn) && _ then _ else _)
      rw [g1_]
      exact hz
    refine W_aload B (hb hby at_157) (pc' := 159) rfl rfl rfl ?_
    refine W_iload B (hb hby at_159) (pc' := 161) rfl rfl ?_
    refine W_iconst B (hb hby at_161) (pc' := 162) rfl (z := (3 : Int32)) (by decide) ?_
    refine W_callS B (y := (⟨"com/example/hash_for_once/hashforonce/api/RequestHeadEndPinLaw", "emptyLineEndsAt", "([BII)Z"⟩ : MethodName)) hown (ow hw (i := 10) rfl) (ow hw (i := 11) rfl) (ow hw (i := 3) rfl) (ow hw (i := 12) rfl) (by decide) (rm3_3 l Z a0 hw h0 b76 v83 (nar .byte z77) (nar .byte z78) (nar .byte z79) (nar .byte z80) (nar .byte z81) (nar .byte z82) fr [] hf) (lenOf pd_1 rfl) (hb hby at_162) (pc' := 165) rfl (argsL := [(.ref b76), (.int v83), (.int (3 : Int32))]) (rest := []) rfl (by rw [hml]; rfl) (W := 0) (oLe rfl) (by decide) (cells' := 1) rfl (slots' := 6) rfl ?_
    intro T v_ d_ q_ B
    rcases q_ with ⟨q98, rfl, rfl⟩ | ⟨q99, rfl, rfl⟩
    · show oWin p e below Z h0 _ _ (T.setTop (mkF m 165 #[.val (.int a1), .val (.long a2), .second, .val (.int a3), .val (.int a4), .val (.ref b76), .val (.int v83), .val (.int v84), .val (.int z96)] [(.int (1 : Int32))]))
      refine W_ifN B (hb hby at_165) (pc' := 168) rfl (by decide) ?_
      refine W_iconst B (hb hby at_168) (pc' := 169) rfl (z := (3 : Int32)) (by decide) ?_
      refine W_istore B (hb hby at_169) (pc' := 171) rfl (v := (3 : Int32)) rfl (ls' := #[.val (.int a1), .val (.long a2), .second, .val (.int a3), .val (.int a4), .val (.ref b76), .val (.int v83), .val (.int v84), .val (.int (3 : Int32))]) rfl ?_
      have g1_ : decide (3 ≤ tn) = true := decide_eq_true (by have g_ := onltI c97; have q_ : (3 : Int32).toInt = 3 := rfl; omega)
      refine kJ _ _ ?_ B
      show _ = Int32.ofInt (bif decide (3 ≤ tn) && own_A _ _ fr 3 then _ else _)
      rw [g1_, q98]
      rfl
    show oWin p e below Z h0 _ _ (T.setTop (mkF m 165 #[.val (.int a1), .val (.long a2), .second, .val (.int a3), .val (.int a4), .val (.ref b76), .val (.int v83), .val (.int v84), .val (.int z96)] [(.int (0 : Int32))]))
    refine W_ifY B (hb hby at_165) (by decide) (pc' := 171) (by decide) (by decide) ?_
    have g1_ : decide (3 ≤ tn) = true := decide_eq_true (by have g_ := onltI c97; have q_ : (3 : Int32).toInt = 3 := rfl; omega)
    refine kJ _ _ ?_ B
    show _ = Int32.ofInt (bif decide (3 ≤ tn) && own_A _ _ fr 3 then _ else _)
    rw [g1_, q99]
    exact hz
  intro z100 T hz B
  refine oJoin B (fun z : Int32 => z = Int32.ofInt (own_S (own_N [(nar .byte z77), (nar .byte z78), (nar .byte z79), (nar .byte z80), (nar .byte z81), (nar .byte z82)]) (own_C [(nar .byte z77), (nar .byte z78), (nar .byte z79), (nar .byte z80), (nar .byte z81), (nar .byte z82)]) fr tn 2 (own_S (own_N [(nar .byte z77), (nar .byte z78), (nar .byte z79), (nar .byte z80), (nar .byte z81), (nar .byte z82)]) (own_C [(nar .byte z77), (nar .byte z78), (nar .byte z79), (nar .byte z80), (nar .byte z81), (nar .byte z82)]) fr tn 3 (own_S (own_N [(nar .byte z77), (nar .byte z78), (nar .byte z79), (nar .byte z80), (nar .byte z81), (nar .byte z82)]) (own_C [(nar .byte z77), (nar .byte z78), (nar .byte z79), (nar .byte z80), (nar .byte z81), (nar .byte z82)]) fr tn 4 (own_S (own_N [(nar .byte z77), (nar .byte z78), (nar .byte z79), (nar .byte z80), (nar .byte z81), (nar .byte z82)]) (own_C [(nar .byte z77), (nar .byte z78), (nar .byte z79), (nar .byte z80), (nar .byte z81), (nar .byte z82)]) fr tn 5 (own_S (own_N [(nar .byte z77), (nar .byte z78), (nar .byte z79), (nar .byte z80), (nar .byte z81), (nar .byte z82)]) (own_C [(nar .byte z77), (nar .byte z78), (nar .byte z79), (nar .byte z80), (nar .byte z81), (nar .byte z82)]) fr tn 6 (-1))))))) (fun z => (mkF m 191 #[.val (.int a1), .val (.long a2), .second, .val (.int a3), .val (.int a4), .val (.ref b76), .val (.int v83), .val (.int v84), .val (.int z)] [])) ?_ ?_
  · intro kJ
    refine W_iload B (hb hby at_171) (pc' := 173) rfl rfl ?_
    refine W_iconst B (hb hby at_173) (pc' := 174) rfl (z := (2 : Int32)) (by decide) ?_
    refine W_icmp_lt B (hb hby at_174) (by decide) (pt := 191) (by decide) (pc' := 177) rfl (fun (c101 : v84 < (2 : Int32)) => ?_) (fun (c101 : ¬ v84 < (2 : Int32)) => ?_)
    · have g1_ : decide (2 ≤ tn) = false := decide_eq_false (by have g_ := oltI c101; have q_ : (2 : Int32).toInt = 2 := rfl; omega)
      refine kJ _ _ ?_ B
      show _ = Int32.ofInt (bif decide (2 ≤ tn) && _ then _ else _)
      rw [g1_]
      exact hz
    refine W_aload B (hb hby at_177) (pc' := 179) rfl rfl rfl ?_
    refine W_iload B (hb hby at_179) (pc' := 181) rfl rfl ?_
    refine W_iconst B (hb hby at_181) (pc' := 182) rfl (z := (2 : Int32)) (by decide) ?_
    refine W_callS B (y := (⟨"com/example/hash_for_once/hashforonce/api/RequestHeadEndPinLaw", "emptyLineEndsAt", "([BII)Z"⟩ : MethodName)) hown (ow hw (i := 10) rfl) (ow hw (i := 11) rfl) (ow hw (i := 3) rfl) (ow hw (i := 12) rfl) (by decide) (rm3_2 l Z a0 hw h0 b76 v83 (nar .byte z77) (nar .byte z78) (nar .byte z79) (nar .byte z80) (nar .byte z81) (nar .byte z82) fr [] hf) (lenOf pd_1 rfl) (hb hby at_182) (pc' := 185) rfl (argsL := [(.ref b76), (.int v83), (.int (2 : Int32))]) (rest := []) rfl (by rw [hml]; rfl) (W := 0) (oLe rfl) (by decide) (cells' := 1) rfl (slots' := 6) rfl ?_
    intro T v_ d_ q_ B
    rcases q_ with ⟨q102, rfl, rfl⟩ | ⟨q103, rfl, rfl⟩
    · show oWin p e below Z h0 _ _ (T.setTop (mkF m 185 #[.val (.int a1), .val (.long a2), .second, .val (.int a3), .val (.int a4), .val (.ref b76), .val (.int v83), .val (.int v84), .val (.int z100)] [(.int (1 : Int32))]))
      refine W_ifN B (hb hby at_185) (pc' := 188) rfl (by decide) ?_
      refine W_iconst B (hb hby at_188) (pc' := 189) rfl (z := (2 : Int32)) (by decide) ?_
      refine W_istore B (hb hby at_189) (pc' := 191) rfl (v := (2 : Int32)) rfl (ls' := #[.val (.int a1), .val (.long a2), .second, .val (.int a3), .val (.int a4), .val (.ref b76), .val (.int v83), .val (.int v84), .val (.int (2 : Int32))]) rfl ?_
      have g1_ : decide (2 ≤ tn) = true := decide_eq_true (by have g_ := onltI c101; have q_ : (2 : Int32).toInt = 2 := rfl; omega)
      refine kJ _ _ ?_ B
      show _ = Int32.ofInt (bif decide (2 ≤ tn) && own_A _ _ fr 2 then _ else _)
      rw [g1_, q102]
      rfl
    show oWin p e below Z h0 _ _ (T.setTop (mkF m 185 #[.val (.int a1), .val (.long a2), .second, .val (.int a3), .val (.int a4), .val (.ref b76), .val (.int v83), .val (.int v84), .val (.int z100)] [(.int (0 : Int32))]))
    refine W_ifY B (hb hby at_185) (by decide) (pc' := 191) (by decide) (by decide) ?_
    have g1_ : decide (2 ≤ tn) = true := decide_eq_true (by have g_ := onltI c101; have q_ : (2 : Int32).toInt = 2 := rfl; omega)
    refine kJ _ _ ?_ B
    show _ = Int32.ofInt (bif decide (2 ≤ tn) && own_A _ _ fr 2 then _ else _)
    rw [g1_, q103]
    exact hz
  intro z104 T hz B
  refine W_aload B (hb hby at_191) (pc' := 193) rfl rfl rfl ?_
  refine W_iload B (hb hby at_193) (pc' := 195) rfl rfl ?_
  refine W_iload B (hb hby at_195) (pc' := 197) rfl rfl ?_
  refine W_callS B (y := (⟨"com/example/hash_for_once/hashforonce/api/RequestHead", "end", "([BII)I"⟩ : MethodName)) hown (ow hw (i := 6) rfl) (ow hw (i := 7) rfl) (ow hw (i := 8) rfl) (ow hw (i := 9) rfl) (by decide) (rm2 l Z a0 hw h0 b76 v83 v84 (nar .byte z77) (nar .byte z78) (nar .byte z79) (nar .byte z80) (nar .byte z81) (nar .byte z82) fr tn [] hf hfr ht htn) (lenOf pd_2 rfl) (hb hby at_197) (pc' := 200) rfl (argsL := [(.ref b76), (.int v83), (.int v84)]) (rest := []) rfl (by rw [hml]; rfl) (W := 0) (oLe rfl) (by decide) (cells' := 1) rfl (slots' := 6) rfl ?_
  intro T v_ d_ q_ B
  obtain ⟨rfl, rfl⟩ := q_
  show oWin p e below Z h0 _ _ (T.setTop (mkF m 200 #[.val (.int a1), .val (.long a2), .second, .val (.int a3), .val (.int a4), .val (.ref b76), .val (.int v83), .val (.int v84), .val (.int z104)] [(.int (Int32.ofInt (own_end (own_N [(nar .byte z77), (nar .byte z78), (nar .byte z79), (nar .byte z80), (nar .byte z81), (nar .byte z82)]) (own_C [(nar .byte z77), (nar .byte z78), (nar .byte z79), (nar .byte z80), (nar .byte z81), (nar .byte z82)]) tn fr)))]))
  refine W_iload B (hb hby at_200) (pc' := 202) rfl rfl ?_
  refine W_icmpN B (hb hby at_202) (pc' := 205) rfl (teq ((congrArg Int32.ofInt (own_law (nar .byte z77) (nar .byte z78) (nar .byte z79) (nar .byte z80) (nar .byte z81) (nar .byte z82) fr tn hfr htn)).trans hz.symm)).2 ?_
  refine W_iconst B (hb hby at_205) (pc' := 206) rfl (z := (1 : Int32)) (by decide) ?_
  refine W_goto B (hb hby at_206) (by decide) (pc' := 210) (by decide) ?_
  refine W_retN B hret (by simp) (hb hby at_210) (by decide) ?_
  rfl
set_option maxRecDepth 65536 in
set_option maxHeartbeats 40000000 in
theorem comes_1 {Post : Tables → Env → Array Value → State → Outcome → State → Prop} (hpost : ∀ tb e args s v u, (limb_1_1.after args s (.returned v) u = true ∧ limb_1_2.after args s (.returned v) u = true ∧ True) → FrameEnd s (.returned v) u (Jvm.fieldLocs frame_1_writes args s ++ Jvm.arrayLocs frame_1_arrays args s ++ Jvm.staticLocs frame_1_statics s) 16 128 → Post tb e args s (.returned v) u) :
    ArmFor flags0 classFile x code maxLocals ret World_1 tables_1 room_1 Calls_1 rest_1 Pre_1 Post := by
  intro l hfl _ _ p e ha hc hk s m args below hf hA hF happ hP
  obtain ⟨hcalls, hrest, hpre⟩ := hP
  obtain ⟨-, -, -, hnamed, -, -, -, hat⟩ := (Spec.applies_iff hf).mp happ
  obtain ⟨hg, hn⟩ := and_e (Cond.before_iff.mp (show (Jvm.Cond.and given_1 narrow_1).before args s = true from hpre))
  obtain ⟨g1, g2⟩ := and_e hg
  obtain ⟨g3, g4⟩ := and_e g2
  obtain ⟨g5, g6⟩ := and_e g4
  obtain ⟨g7, g8⟩ := and_e g6
  obtain ⟨w0, w1, w2, w3, rfl⟩ : ∃ w0 w1 w2 w3 : Value, args = #[w0, w1, w2, w3] := by
    have hs : args.size = 4 := by simpa [Cond.value, given_1] using g1
    obtain ⟨L⟩ := args
    match L, hs with
    | [w0, w1, w2, w3], _ => exact ⟨w0, w1, w2, w3, rfl⟩
  have hw := fun d (hd : d ∈ tables_1) => atoms_spec (ws := Jvm.Cond.code x code maxLocals ret :: tables_1) hat d (List.mem_cons_of_mem _ hd)
  have hfit : Fit s := fun {y c} hc i hi => by
    obtain ⟨ha, rfl⟩ := Array.getElem?_eq_some_iff.mp hc
    have q := List.all_eq_true.mp ((Array.all_eq_true_iff_forall_mem.mp hF) _ (Array.getElem_mem ha)) i (List.mem_range.mpr hi)
    simpa [Array.getElem?_eq_getElem hi] using q
  obtain ⟨i0, ei0⟩ := is_v g3
  obtain rfl : w0 = (.int i0) := Option.some.inj ei0
  obtain ⟨i1, ei1⟩ := isL_v g5
  obtain rfl : w1 = (.long i1) := Option.some.inj ei1
  obtain ⟨i2, ei2⟩ := is_v g7
  obtain rfl : w2 = (.int i2) := Option.some.inj ei2
  obtain ⟨i3, ei3⟩ := is_v g8
  obtain rfl : w3 = (.int i3) := Option.some.inj ei3
  obtain ⟨n, o, h1, h2, h3, _, L, rfl, ⟨N, ds', -, rfl⟩, hq⟩ := rm0 l s _ hw s.heap i0 i1 i2 i3  s.heap (oHP.nil s s.heap) p e ha hc hk s m _ below hf ((Spec.applies_iff_loose hf).mp happ).1 ⟨rfl, State.Warmed39.refl s, rfl⟩ trivial
  refine ⟨n, _, h1, h2, h3, hpost _ _ _ _ _ _ ⟨Cond.after_iff.mpr rfl, Cond.after_iff.mpr (eq_i res_at (Term.int_eval (1)) rfl), trivial⟩ ⟨hq.1, hq.2.1, (hq.2.2.sift fun y hy => Or.inr (N y hy)).mono (by decide) (by decide)⟩⟩
theorem main_1_1 : Claimed_1_1 := comes_1 fun _ _ _ _ _ _ h hF => ⟨h.1, hF⟩
theorem main_1_2 : Claimed_1_2 := comes_1 fun _ _ _ _ _ _ h hF => ⟨h.2.1, hF⟩
end Jvm.Pilot.@@N@@
namespace Jvm.Pilot.@@N@@
open Jvm Jvm.ClassFile Sem Op Lib Jvm.Free Jvm.Stand Jvm.Pilot.@@N@@.Jvm.D
/-! MADE BY PROGRAM (witnessworld.py) out of the Statement's table words and the real class files: 10 classes; the members and pool entries that the words name. The judged class is class 1, her method 1. -/
namespace start1
open Jvm.ClassFile
def u (s : String) : CpInfo := .utf8 (stringToUtf16 s)
/-- a pool by its gaps: so many unusable entries, then the entry; so many at the end -/
def gap : Nat → List CpInfo → List CpInfo
  | 0, r => r
  | n + 1, r => .unusable :: gap n r
def poolList (es : List (Nat × CpInfo)) (last : Nat) : List CpInfo := es.foldr (fun e r => gap e.1 (e.2 :: r)) (gap last [])
def pool (es : List (Nat × CpInfo)) (last : Nat) : Array CpInfo := ⟨poolList es last⟩
def fileOf (pool : Array CpInfo) (this : Nat) (attrs : Array Attribute := #[]) (ms : Array MethodInfo := #[]) (fl : Nat := 33) (sup : Nat := 0) (ifs : Array Nat := #[]) (fds : Array FieldInfo := #[]) : ClassFile where
  minorVersion := 0
  majorVersion := 65
  constantPool := pool
  accessFlags := fl
  thisClass := this
  superClass := sup
  interfaces := ifs
  fields := fds
  methods := ms
  attributes := attrs
def plain (name : String) (sup : Option ClassId) : Class where
  name := name
  kind := .ordinary
  loader := none
  accessFlags := 33
  super := sup
  interfaces := #[]
  cf := none
  fields := #[]
  methods := #[]
  instanceTypes := #[]
  staticTypes := #[]
  resolved := #[]
  callSites := []
  init := .initialized
  statics := none
  mirror := none

def pool0 : Array CpInfo := pool [(5, u "<init>"), (0, u "()V"), (1, .class_ 10), (1, u "java/lang/Object")] 113

def k0m0 : Method := { name := "<init>", desc := "()V", sig := { parameters := [], returnType := none }, accessFlags := 1, code := none }
/-- java/lang/Object -/
def k0 : Class := { plain "java/lang/Object" none with
  accessFlags := 33
  interfaces := #[]
  cf := some (fileOf pool0 8 #[] #[{ accessFlags := 1, nameIndex := 5, descriptorIndex := 6, attributes := #[] }] 33 0 #[] #[])
  fields := #[]
  methods := #[k0m0]
  instanceTypes := #[]
  staticTypes := #[]
  resolved := Array.replicate 124 none
  statics := none }

def pool1 : Array CpInfo := pool [(2, .class_ 4), (1, u "java/lang/Object"), (0, u "<init>"), (0, u "()V"), (0, .methodref 8 9), (0, .class_ 10), (0, .nameAndType 11 12), (0, u "com/example/hash_for_once/hashforonce/api/RequestHeadEndPinLaw"), (0, u "pick"), (0, u "(IJI)B"), (0, .integer 2147483647), (0, .methodref 8 15), (0, .nameAndType 16 17), (0, u "emptyLineEndsAt"), (0, u "([BII)Z"), (0, .methodref 19 20), (0, .class_ 21), (0, .nameAndType 22 23), (0, u "com/example/hash_for_once/hashforonce/api/RequestHead"), (0, u "end"), (0, u "([BII)I"), (2, u "law"), (0, u "(IJII)Z")] 5

def k1m0 : Method := { name := "<init>", desc := "()V", sig := { parameters := [], returnType := none }, accessFlags := 2, code := none }
def k1c1 : Code := { maxStack := 6, maxLocals := 9, code := code, exceptionTable := #[], attributes := #[] }
def k1m1 : Method := { name := "law", desc := "(IJII)Z", sig := { parameters := [.int, .long, .int, .int], returnType := some .boolean }, accessFlags := 9, code := some k1c1 }
def k1c2 : Code := { maxStack := 4, maxLocals := 5, code := method_3_code, exceptionTable := #[], attributes := #[] }
def k1m2 : Method := { name := "pick", desc := "(IJI)B", sig := { parameters := [.int, .long, .int], returnType := some .byte }, accessFlags := 10, code := some k1c2 }
def k1c3 : Code := { maxStack := 3, maxLocals := 3, code := method_4_code, exceptionTable := #[], attributes := #[] }
def k1m3 : Method := { name := "emptyLineEndsAt", desc := "([BII)Z", sig := { parameters := [(.array .byte), .int, .int], returnType := some .boolean }, accessFlags := 10, code := some k1c3 }
/-- com/example/hash_for_once/hashforonce/api/RequestHeadEndPinLaw -/
def k1 : Class := { plain "com/example/hash_for_once/hashforonce/api/RequestHeadEndPinLaw" (some 0) with
  accessFlags := 49
  interfaces := #[]
  cf := some (fileOf pool1 8 #[] #[{ accessFlags := 2, nameIndex := 5, descriptorIndex := 6, attributes := #[] }, { accessFlags := 9, nameIndex := 26, descriptorIndex := 27, attributes := #[] }, { accessFlags := 10, nameIndex := 11, descriptorIndex := 12, attributes := #[] }, { accessFlags := 10, nameIndex := 16, descriptorIndex := 17, attributes := #[] }] 49 2 #[] #[])
  fields := #[]
  methods := #[k1m0, k1m1, k1m2, k1m3]
  instanceTypes := #[]
  staticTypes := #[]
  resolved := Array.replicate 33 none
  statics := none }

def pool2 : Array CpInfo := pool [(2, .class_ 4), (1, u "java/lang/Object"), (0, u "<init>"), (0, u "()V"), (0, .class_ 8), (0, u "java/lang/Record")] 13

def k2m0 : Method := { name := "<init>", desc := "()V", sig := { parameters := [], returnType := none }, accessFlags := 4, code := none }
/-- java/lang/Record -/
def k2 : Class := { plain "java/lang/Record" (some 0) with
  accessFlags := 1057
  interfaces := #[]
  cf := some (fileOf pool2 7 #[] #[{ accessFlags := 4, nameIndex := 5, descriptorIndex := 6, attributes := #[] }] 1057 2 #[] #[])
  fields := #[]
  methods := #[k2m0]
  instanceTypes := #[]
  staticTypes := #[]
  resolved := Array.replicate 22 none
  statics := none }

def pool3 : Array CpInfo := pool [(2, .class_ 4), (1, u "java/lang/Record"), (3, .class_ 10), (1, u "com/example/hash_for_once/hashforonce/api/RequestHead"), (0, u "method"), (0, u "Ljava/lang/String;"), (2, u "target"), (2, u "http10"), (0, u "Z"), (2, u "contentLength"), (0, u "J"), (2, u "chunked"), (2, u "keeps"), (2, u "expectsContinue"), (3, u "([BII)I"), (28, .class_ 66), (0, u "com/example/hash_for_once/hashforonce/api/RequestHead$Fields"), (89, u "MOST_LENGTH_DIGITS"), (0, u "I"), (6, u "end")] 57

def k3c0 : Code := { maxStack := 3, maxLocals := 5, code := prog_5_method_2_code, exceptionTable := #[], attributes := #[] }
def k3m0 : Method := { name := "end", desc := "([BII)I", sig := { parameters := [(.array .byte), .int, .int], returnType := some .int }, accessFlags := 8, code := some k3c0 }
/-- com/example/hash_for_once/hashforonce/api/RequestHead -/
def k3 : Class := { plain "com/example/hash_for_once/hashforonce/api/RequestHead" (some 2) with
  accessFlags := 48
  interfaces := #[]
  cf := some (fileOf pool3 8 #[.nestMembers #[65]] #[{ accessFlags := 8, nameIndex := 164, descriptorIndex := 36, attributes := #[] }] 48 2 #[] #[{ accessFlags := 18, nameIndex := 11, descriptorIndex := 12, attributes := #[] }, { accessFlags := 18, nameIndex := 15, descriptorIndex := 12, attributes := #[] }, { accessFlags := 18, nameIndex := 18, descriptorIndex := 19, attributes := #[] }, { accessFlags := 18, nameIndex := 22, descriptorIndex := 23, attributes := #[] }, { accessFlags := 18, nameIndex := 26, descriptorIndex := 19, attributes := #[] }, { accessFlags := 18, nameIndex := 29, descriptorIndex := 19, attributes := #[] }, { accessFlags := 18, nameIndex := 32, descriptorIndex := 19, attributes := #[] }, { accessFlags := 26, nameIndex := 156, descriptorIndex := 157, attributes := #[] }])
  fields := #[{ name := "method", type := (.object "java/lang/String"), accessFlags := 18, slot := 0, constantValue := 0 }, { name := "target", type := (.object "java/lang/String"), accessFlags := 18, slot := 1, constantValue := 0 }, { name := "http10", type := .boolean, accessFlags := 18, slot := 2, constantValue := 0 }, { name := "contentLength", type := .long, accessFlags := 18, slot := 3, constantValue := 0 }, { name := "chunked", type := .boolean, accessFlags := 18, slot := 4, constantValue := 0 }, { name := "keeps", type := .boolean, accessFlags := 18, slot := 5, constantValue := 0 }, { name := "expectsContinue", type := .boolean, accessFlags := 18, slot := 6, constantValue := 0 }, { name := "MOST_LENGTH_DIGITS", type := .int, accessFlags := 26, slot := 0, constantValue := 0 }]
  methods := #[k3m0]
  instanceTypes := #[(.object "java/lang/String"), (.object "java/lang/String"), .boolean, .long, .boolean, .boolean, .boolean]
  staticTypes := #[.int]
  resolved := Array.replicate 222 none
  statics := none }

def pool4 : Array CpInfo := pool [(1, u "java/lang/Cloneable"), (0, .class_ 1), (0, u "java/lang/Object"), (0, .class_ 3)] 3

/-- java/lang/Cloneable -/
def k4 : Class := { plain "java/lang/Cloneable" (some 0) with
  accessFlags := 1537
  interfaces := #[]
  cf := some (fileOf pool4 2 #[] #[] 1537 4 #[] #[])
  fields := #[]
  methods := #[]
  instanceTypes := #[]
  staticTypes := #[]
  resolved := Array.replicate 8 none
  statics := none }

def pool5 : Array CpInfo := pool [(1, u "java/io/Serializable"), (0, .class_ 1), (0, u "java/lang/Object"), (0, .class_ 3)] 3

/-- java/io/Serializable -/
def k5 : Class := { plain "java/io/Serializable" (some 0) with
  accessFlags := 1537
  interfaces := #[]
  cf := some (fileOf pool5 2 #[] #[] 1537 4 #[] #[])
  fields := #[]
  methods := #[]
  instanceTypes := #[]
  staticTypes := #[]
  resolved := Array.replicate 8 none
  statics := none }

/-- the primitive byte -/
def k6 : Class := { plain "byte" none with kind := .primitive 'B', accessFlags := 0x411 }
/-- [B -/
def k7 : Class := { plain "[B" (some 0) with kind := .array 6 .byte, interfaces := #[4, 5], accessFlags := 1041 }

/-- the primitive int -/
def k8 : Class := { plain "int" none with kind := .primitive 'I', accessFlags := 0x411 }
/-- [I -/
def k9 : Class := { plain "[I" (some 0) with kind := .array 8 .int, interfaces := #[4, 5], accessFlags := 1041 }

def heap : Heap := #[]
def classes : Array Class := #[k0, k1, k2, k3, k4, k5, k6, k7, k8, k9]
def interned : List (Array UInt16 × Addr) := []
def slotsUsed : Nat := 0
def theMethod : MethodId := ⟨1, 1⟩
def args0 : Array Value := #[.int 5, .long 6, .int 7, .int 8]
def aboutOver (below : List Frame) : State where
  vm := { classes := classes, interned := interned.toArray }
  heap := heap
  slotsUsed := slotsUsed
  threads := #[{ frames := .invoking theMethod args0 :: below }]
def below0 : List Frame := [.native { method := ⟨0, 0⟩, args := #[] }]
def about1 : State := aboutOver below0
def p0 : Program := .bare "" "" ""
def e0 : Env := launch0.env 0 0 0
theorem w_frames : about1.frames = Frame.invoking theMethod args0 :: below0 := rfl
set_option maxRecDepth 65536 in
theorem w_args : argsFit about1.vm theMethod args0 = true := by decide +kernel
set_option maxRecDepth 65536 in
theorem w_heap : heapFits about1 = true := by decide +kernel
set_option maxRecDepth 65536 in
theorem w_runnable : about1.curStatus? = some .runnable := by decide +kernel
set_option maxRecDepth 65536 in
theorem w_alone : about1.alone = true := by decide +kernel
set_option maxRecDepth 65536 in
theorem w_named : about1.methodNamed? x = some theMethod := by decide +kernel
set_option maxRecDepth 65536 in
theorem w_hears : about1.hears theMethod below0 = true := by decide +kernel
set_option maxRecDepth 65536 in
theorem w_ripe : about1.ripe theMethod args0 below0 = true := by decide +kernel
theorem w_running : about1.status = .running := rfl
set_option maxRecDepth 65536 in
theorem w_room : about1.hasRoom e0.platform room_1 = true :=
  launch0.hasRoom_least _ room_1 (by decide +kernel) (by decide +kernel) (by decide +kernel) (by decide +kernel) (by decide +kernel) (by decide +kernel)
theorem allAtoms_all (ts : List Jvm.Cond) (a : Array Jvm.Value) (st : Jvm.State) : (allAtoms ts).before a st = ts.all (fun c => c.before a st) := by
  induction ts with
  | nil => rfl
  | cons c t ih =>
    show (Jvm.Cond.and c (allAtoms t)).before a st = _
    rw [Jvm.Cond.before_and, ih, List.all_cons]
def words1 : List Jvm.Cond := Jvm.Cond.code x code maxLocals ret :: tables_1
/-- a 'code' word, met by the world's own term for the bytes: nothing is compared byte by byte -/
theorem code_word {y : MethodName} {bytes : ByteArray} {mx : Nat} {rt : Option FieldType} {a : Array Value} {s : State} {m : MethodId} {meth : Method} {c : Code} (h1 : s.methodNamed? y = some m) (h2 : s.vm.method? m = some meth) (h3 : meth.code = some c) (h4 : c.code = bytes)
    (h5 : (c.maxLocals == mx && c.exceptionTable.isEmpty && decide (c.maxStack ≤ mostOperands) && decide (meth.sig.returnType = rt) && !meth.locks && decide (parseMethodDescriptor y.desc = some meth.sig)) = true) : (Jvm.Cond.code y bytes mx rt).before a s = true := by
  simp only [Bool.and_eq_true, beq_iff_eq, Bool.not_eq_true', decide_eq_true_eq] at h5
  obtain ⟨⟨⟨⟨⟨g1, g2⟩, g3⟩, g4⟩, g5⟩, g6⟩ := h5
  simp [Cond.before, Cond.holds, Cond.value, h1, h2, h3, h4, g1, g2, g3, g4, g5, g6]
def isCode : Jvm.Cond → Bool
  | .code _ _ _ _ => true
  | _ => false
theorem all_split {L : List Jvm.Cond} {P : Jvm.Cond → Bool} (h1 : L.all (fun c => isCode c || P c) = true) (h2 : ∀ c ∈ L.filter isCode, P c = true) : L.all P = true := by
  refine List.all_eq_true.mpr fun c hc => ?_
  have h := List.all_eq_true.mp h1 c hc
  rcases Bool.eq_false_or_eq_true (isCode c) with hi | hi
  · exact h2 c (List.mem_filter.mpr ⟨hc, hi⟩)
  · simpa [hi] using h
set_option maxRecDepth 65536 in
theorem w_c0 : (Jvm.Cond.code x code maxLocals ret).before args0 about1 = true := code_word (m := ⟨1, 1⟩) (meth := k1m1) (c := k1c1) (by decide +kernel) rfl rfl rfl (by decide +kernel)
set_option maxRecDepth 65536 in
theorem w_c1 : (Jvm.Cond.code ({ cls := "com/example/hash_for_once/hashforonce/api/RequestHeadEndPinLaw", name := "pick", desc := "(IJI)B" } : Jvm.MethodName) method_3_code (5 : Nat) (Option.some Jvm.ClassFile.FieldType.byte)).before args0 about1 = true := code_word (m := ⟨1, 2⟩) (meth := k1m2) (c := k1c2) (by decide +kernel) rfl rfl rfl (by decide +kernel)
set_option maxRecDepth 65536 in
theorem w_c2 : (Jvm.Cond.code ({ cls := "com/example/hash_for_once/hashforonce/api/RequestHead", name := "end", desc := "([BII)I" } : Jvm.MethodName) prog_5_method_2_code (5 : Nat) (Option.some Jvm.ClassFile.FieldType.int)).before args0 about1 = true := code_word (m := ⟨3, 0⟩) (meth := k3m0) (c := k3c0) (by decide +kernel) rfl rfl rfl (by decide +kernel)
set_option maxRecDepth 65536 in
theorem w_c3 : (Jvm.Cond.code ({ cls := "com/example/hash_for_once/hashforonce/api/RequestHeadEndPinLaw", name := "emptyLineEndsAt", desc := "([BII)Z" } : Jvm.MethodName) method_4_code (3 : Nat) (Option.some Jvm.ClassFile.FieldType.boolean)).before args0 about1 = true := code_word (m := ⟨1, 3⟩) (meth := k1m3) (c := k1c3) (by decide +kernel) rfl rfl rfl (by decide +kernel)
def codes1 : List Jvm.Cond := [Jvm.Cond.code x code maxLocals ret, Jvm.Cond.code ({ cls := "com/example/hash_for_once/hashforonce/api/RequestHeadEndPinLaw", name := "pick", desc := "(IJI)B" } : Jvm.MethodName) method_3_code (5 : Nat) (Option.some Jvm.ClassFile.FieldType.byte), Jvm.Cond.code ({ cls := "com/example/hash_for_once/hashforonce/api/RequestHead", name := "end", desc := "([BII)I" } : Jvm.MethodName) prog_5_method_2_code (5 : Nat) (Option.some Jvm.ClassFile.FieldType.int), Jvm.Cond.code ({ cls := "com/example/hash_for_once/hashforonce/api/RequestHeadEndPinLaw", name := "emptyLineEndsAt", desc := "([BII)Z" } : Jvm.MethodName) method_4_code (3 : Nat) (Option.some Jvm.ClassFile.FieldType.boolean)]
set_option maxRecDepth 65536 in
theorem codes_eq : words1.filter isCode = codes1 := rfl
theorem w_codes : ∀ c ∈ words1.filter isCode, c.before args0 about1 = true := by
  rw [codes_eq]
  intro c hc
  simp only [codes1, List.mem_cons, List.not_mem_nil, or_false] at hc
  rcases hc with rfl | rfl | rfl | rfl
  · exact w_c0
  · exact w_c1
  · exact w_c2
  · exact w_c3
set_option maxRecDepth 65536 in
theorem w_t1 : words1.all (fun c => isCode c || c.before args0 about1) = true := by decide +kernel
theorem w_tables : (allAtoms (Jvm.Cond.code x code maxLocals ret :: tables_1)).before args0 about1 = true := by
  rw [allAtoms_all]
  show words1.all (fun c => c.before args0 about1) = true
  refine all_split ?_ w_codes
  rw [w_t1]
set_option maxRecDepth 65536 in
theorem w_case : (Jvm.Cond.and given_1 narrow_1).before args0 about1 = true := by decide +kernel
theorem w_applies : (headSpec (Jvm.Cond.code x code maxLocals ret :: tables_1) room_1).applies x e0.platform about1 = true :=
  (Spec.applies_iff w_frames).mpr ⟨w_running, w_runnable, w_alone, w_named, w_hears, w_ripe, w_room, w_tables⟩
theorem atStart : AtStart classFile x code maxLocals ret World_1 tables_1 room_1 Calls_1 rest_1 Pre_1 launch0 p0 e0 about1 theMethod args0 below0 :=
  ⟨lists_1, trivial, launch0.admits_env _ _ _, launch0.least_env, fairChoices_fair.cas, fairChoices_fair.clock, w_frames, w_args, w_heap, w_applies, trivial, trivial, w_case⟩
end start1
theorem witness_1 : WitnessClaimed_1 := ⟨start1.p0, start1.e0, start1.about1, start1.theMethod, start1.args0, start1.below0, start1.atStart⟩
end Jvm.Pilot.@@N@@
