import JvmDerived
import JvmDerived.Pilot.@@N@@Statement
import JvmDerived.Pilot.@@N@@Code
set_option linter.unusedVariables false
set_option linter.unusedSimpArgs false
namespace Jvm.Pilot.@@N@@
open Jvm Jvm.ClassFile Sem Op Lib Jvm.Free Jvm.Stand Jvm.LawKit Jvm.RoadKit Bundle Jvm.Pilot.@@N@@.Jvm.D
theorem ow {Z : State} {a0 : Array Value} (hw : ∀ d ∈ tables_1, d.before a0 Z = true) {i : Nat} {d : Jvm.Cond} (h : tables_1[i]? = some d) : d.before a0 Z = true := hw d (List.mem_of_getElem? h)
theorem oLt {n m : Nat} (h : Nat.blt n m = true) : n < m := by simpa [Nat.blt_eq] using h
theorem oLe {n m : Nat} (h : Nat.ble n m = true) : n ≤ m := Nat.le_of_ble_eq_true h
theorem ogeI (x : Int32) : -2147483648 ≤ x.toInt := by have := Int32.le_toInt x; omega
theorem oltI' (x : Int32) : x.toInt < 2147483648 := by have := Int32.toInt_lt x; omega
theorem ogeL (x : Int64) : -9223372036854775808 ≤ x.toInt := by have := Int64.le_toInt x; omega
theorem oltL' (x : Int64) : x.toInt < 9223372036854775808 := by have := Int64.toInt_lt x; omega
theorem orI (x : Int32) : -2147483648 ≤ x.toInt ∧ x.toInt < 2147483648 := ⟨ogeI x, oltI' x⟩
theorem orL (x : Int64) : -9223372036854775808 ≤ x.toInt ∧ x.toInt < 9223372036854775808 := ⟨ogeL x, oltL' x⟩
theorem oiadd (x y : Int32) : ((x + y).toInt - (x.toInt + y.toInt)) % 4294967296 = 0 ∧ -2147483648 ≤ (x + y).toInt ∧ (x + y).toInt < 2147483648 := ⟨c_iadd x y, orI _⟩
theorem oisub (x y : Int32) : ((x - y).toInt - (x.toInt - y.toInt)) % 4294967296 = 0 ∧ -2147483648 ≤ (x - y).toInt ∧ (x - y).toInt < 2147483648 := ⟨c_isub x y, orI _⟩
theorem oladd (x y : Int64) : ((x + y).toInt - (x.toInt + y.toInt)) % 18446744073709551616 = 0 ∧ -9223372036854775808 ≤ (x + y).toInt ∧ (x + y).toInt < 9223372036854775808 := ⟨c_ladd x y, orL _⟩
theorem olsub (x y : Int64) : ((x - y).toInt - (x.toInt - y.toInt)) % 18446744073709551616 = 0 ∧ -9223372036854775808 ≤ (x - y).toInt ∧ (x - y).toInt < 9223372036854775808 := ⟨c_lsub x y, orL _⟩
theorem oltI {x y : Int32} (h : x < y) : x.toInt < y.toInt := Int32.lt_iff_toInt_lt.mp h
theorem oltL {x y : Int64} (h : x < y) : x.toInt < y.toInt := Int64.lt_iff_toInt_lt.mp h
theorem onltI {x y : Int32} (h : ¬ x < y) : y.toInt ≤ x.toInt := by rw [Int32.lt_iff_toInt_lt] at h; omega
theorem onltL {x y : Int64} (h : ¬ x < y) : y.toInt ≤ x.toInt := by rw [Int64.lt_iff_toInt_lt] at h; omega
theorem oeqI {x y : Int32} (h : x = y) : x.toInt = y.toInt := congrArg _ h
theorem oeqL {x y : Int64} (h : x = y) : x.toInt = y.toInt := congrArg _ h
theorem oneI {x y : Int32} (h : ¬ x = y) : x.toInt ≠ y.toInt := fun q => h (Int32.toInt_inj.mp q)
theorem oneL {x y : Int64} (h : ¬ x = y) : x.toInt ≠ y.toInt := fun q => h (Int64.toInt_inj.mp q)
theorem oltI_i {x y : Int32} (h : x.toInt < y.toInt) : x < y := Int32.lt_iff_toInt_lt.mpr h
theorem oltL_i {x y : Int64} (h : x.toInt < y.toInt) : x < y := Int64.lt_iff_toInt_lt.mpr h
theorem onltI_i {x y : Int32} (h : y.toInt ≤ x.toInt) : ¬ x < y := by rw [Int32.lt_iff_toInt_lt]; omega
theorem onltL_i {x y : Int64} (h : y.toInt ≤ x.toInt) : ¬ x < y := by rw [Int64.lt_iff_toInt_lt]; omega
theorem oeqI_i {x y : Int32} (h : x.toInt = y.toInt) : x = y := Int32.toInt_inj.mp h
theorem oeqL_i {x y : Int64} (h : x.toInt = y.toInt) : x = y := Int64.toInt_inj.mp h
theorem oneI_i {x y : Int32} (h : x.toInt ≠ y.toInt) : ¬ x = y := fun q => h (congrArg _ q)
theorem oneL_i {x y : Int64} (h : x.toInt ≠ y.toInt) : ¬ x = y := fun q => h (congrArg _ q)
theorem otoI {x y : Int32} (h : x.toInt = y.toInt) : x = y := Int32.toInt_inj.mp h
theorem otoL {x y : Int64} (h : x.toInt = y.toInt) : x = y := Int64.toInt_inj.mp h
theorem omaskI (x m : Int32) (k : Nat) (P : Int) (hk : k ≤ 31) (hm : m.toBitVec.toNat = 2 ^ k - 1) (hP : P = ((2 ^ k : Nat) : Int)) : (x &&& m).toInt = x.toInt % P := by rw [hP]; exact c_mask x m k hk hm
theorem omaskL (x m : Int64) (k : Nat) (P : Int) (hk : k ≤ 63) (hm : m.toBitVec.toNat = 2 ^ k - 1) (hP : P = ((2 ^ k : Nat) : Int)) : (x &&& m).toInt = x.toInt % P := by rw [hP]; exact c_maskL x m k hk hm
theorem oandI (x m : Int32) (hm : 0 ≤ m.toInt) : 0 ≤ (x &&& m).toInt ∧ (x &&& m).toInt ≤ m.toInt := c_and x m hm
theorem oishr (x q : Int32) (k : Nat) (P : Int) (hk : q.toBitVec.toNat % 32 = k) (hP : P = ((2 ^ k : Nat) : Int)) : (x >>> (q &&& 31)).toInt = x.toInt / P := by rw [hP]; exact c_ishr x q k hk
theorem oishl (x q : Int32) (k : Nat) (P : Int) (hk : q.toBitVec.toNat % 32 = k) (hP : P = ((2 ^ k : Nat) : Int)) : ((x <<< (q &&& 31)).toInt - x.toInt * P) % 4294967296 = 0 := by rw [hP]; exact c_ishl x q k hk
theorem oiushr (x q : Int32) (k : Nat) (P : Int) (hk : q.toBitVec.toNat % 32 = k) (hP : P = ((2 ^ k : Nat) : Int)) (h0 : 0 < k) : ((x.toUInt32 >>> (q &&& 31).toUInt32).toInt32).toInt = (x.toInt % 4294967296) / P := by rw [hP]; exact c_iushr x q k hk h0
theorem olshr (x : Int64) (q : Int32) (k : Nat) (P : Int) (hk : q.toBitVec.toNat % 64 = k) (hP : P = ((2 ^ k : Nat) : Int)) : (x >>> (q &&& 0x3f).toInt64).toInt = x.toInt / P := by rw [hP]; exact c_lshr x q k hk
theorem olshl (x : Int64) (q : Int32) (k : Nat) (P : Int) (hk : q.toBitVec.toNat % 64 = k) (hP : P = ((2 ^ k : Nat) : Int)) : ((x <<< (q &&& 0x3f).toInt64).toInt - x.toInt * P) % 18446744073709551616 = 0 := by rw [hP]; exact c_lshl x q k hk
theorem olushr (x : Int64) (q : Int32) (k : Nat) (P : Int) (hk : q.toBitVec.toNat % 64 = k) (hP : P = ((2 ^ k : Nat) : Int)) (h0 : 0 < k) : ((x.toUInt64 >>> (q &&& 0x3f).toInt64.toUInt64).toInt64).toInt = (x.toInt % 18446744073709551616) / P := by rw [hP]; exact c_lushr x q k hk h0
theorem oirem (x y : Int32) (d : Int) (hy : y.toInt = d) (h0 : 0 < d) (h1 : y ≠ -1) : (0 ≤ x.toInt → (x % y).toInt = x.toInt % d) ∧ (x.toInt < 0 → (x % y).toInt = -((-x.toInt) % d)) := c_irem x y d hy
theorem olrem (x y : Int64) (d : Int) (hy : y.toInt = d) (h0 : 0 < d) (h1 : y ≠ -1) : (0 ≤ x.toInt → (x - (x / y) * y).toInt = x.toInt % d) ∧ (x.toInt < 0 → (x - (x / y) * y).toInt = -((-x.toInt) % d)) := c_lrem x y d hy
theorem oidiv (x y : Int32) (d : Int) (hy : y.toInt = d) (h0 : 0 < d) (h1 : y ≠ -1) : (0 ≤ x.toInt → (x / y).toInt = x.toInt / d) ∧ (x.toInt < 0 → (x / y).toInt = -((-x.toInt) / d)) := c_idiv x y d hy h1
theorem oldiv (x y : Int64) (d : Int) (hy : y.toInt = d) (h0 : 0 < d) (h1 : y ≠ -1) : (0 ≤ x.toInt → (x / y).toInt = x.toInt / d) ∧ (x.toInt < 0 → (x / y).toInt = -((-x.toInt) / d)) := c_ldiv x y d hy h1
theorem olremV (x y : Int64) : 0 ≤ x.toInt → 0 < y.toInt → 0 ≤ (x - (x / y) * y).toInt ∧ (x - (x / y) * y).toInt < y.toInt ∧ (x - (x / y) * y).toInt ≤ x.toInt := by
  intro h1 h2
  rw [(c_lrem x y y.toInt rfl).1 h1]
  exact ⟨Int.emod_nonneg _ (by omega), Int.emod_lt_of_pos _ h2, by have q1 := Int.mul_ediv_add_emod x.toInt y.toInt; have q2 := Int.mul_nonneg (Int.le_of_lt h2) (Int.ediv_nonneg h1 (Int.le_of_lt h2)); omega⟩
theorem oiremV (x y : Int32) : 0 ≤ x.toInt → 0 < y.toInt → 0 ≤ (x % y).toInt ∧ (x % y).toInt < y.toInt ∧ (x % y).toInt ≤ x.toInt := by
  intro h1 h2
  rw [(c_irem x y y.toInt rfl).1 h1]
  exact ⟨Int.emod_nonneg _ (by omega), Int.emod_lt_of_pos _ h2, by have q1 := Int.mul_ediv_add_emod x.toInt y.toInt; have q2 := Int.mul_nonneg (Int.le_of_lt h2) (Int.ediv_nonneg h1 (Int.le_of_lt h2)); omega⟩
abbrev o0 : Value := .int (0 : Int32)
abbrev oFK : Type := String × String × String
abbrev oD : Type := Sum (FieldType × List Value) (String × List (oFK × Value))
abbrev oA (ty : FieldType) (vs : List Value) : oD := .inl (ty, vs)
abbrev oO (C : String) (fs : List (oFK × Value)) : oD := .inr (C, fs)
abbrev oDs : Type := List (Addr × oD)
def oSl (Z : State) (f : oFK) : Nat := Jvm.RoadKit.slotOf Z f.1 f.2.1 f.2.2
def oIs (Z : State) (h : Heap) (a : Addr) (d : oD) : Prop :=
  match d with
  | .inl x => ∃ c : Cell, Arr Z h a c x.1 ∧ c.slots = x.2.toArray ∧ (∀ C, x.1 = .object C → Ovr Z c.cls C) ∧ Exa Z h a ("[" ++ x.1.toString) ∧ ∀ v ∈ x.2, fits x.1 v = true
  | .inr x => Exa Z h a x.1 ∧ (∀ f ∈ x.2, Fld Z h a f.1.1 f.1.2.1 f.1.2.2 f.2) ∧ x.2.Pairwise (fun f g => oSl Z f.1 ≠ oSl Z g.1)
def oHP (Z : State) (h0 : Heap) (lo : Nat) (h : Heap) (ds : oDs) : Prop := (Ext h0 h ∧ lo ≤ h.size) ∧ (ds.map (·.1)).Nodup ∧ ∀ x ∈ ds, h0.size ≤ x.1 ∧ oIs Z h x.1 x.2
theorem oExt.refl (h : Heap) : Ext h h := ⟨Nat.le_refl _, fun _ _ q => q⟩
theorem oExt.trans {h h' h'' : Heap} (E : Ext h h') (E' : Ext h' h'') : Ext h h'' := ⟨Nat.le_trans E.1 E'.1, fun a c q => E'.2 a c (E.2 a c q)⟩
theorem oHP.nil (Z : State) (h : Heap) : oHP Z h h.size h [] := ⟨⟨oExt.refl h, Nat.le_refl _⟩, List.nodup_nil, fun x hx => nomatch hx⟩
theorem oIs.lt {Z : State} {h : Heap} {a : Addr} {d : oD} (I : oIs Z h a d) : a < h.size := by
  cases d with
  | inl x => obtain ⟨c, A, -⟩ := I; exact A.lt
  | inr x => exact I.1.lt
theorem oIs.ext {Z : State} {h h' : Heap} {a : Addr} {d : oD} (E : Ext h h') (I : oIs Z h a d) : oIs Z h' a d := by
  cases d with
  | inl x => obtain ⟨c, A, r1, r2, r3, r4⟩ := I; exact ⟨c, A.ext E, r1, r2, r3.ext E, r4⟩
  | inr x => exact ⟨I.1.ext E, fun f hf => (I.2.1 f hf).ext E, I.2.2⟩
theorem oIs.other {Z : State} {h h' : Heap} {a b : Addr} {sl : Nat} {v : Value} {d : oD} (W : Wr h h' a sl v) (ne : b ≠ a) (I : oIs Z h b d) : oIs Z h' b d := by
  cases d with
  | inl x => obtain ⟨c, A, r1, r2, r3, r4⟩ := I; exact ⟨c, A.other W ne, r1, r2, r3.wr W, r4⟩
  | inr x => exact ⟨I.1.wr W, fun f hf => (I.2.1 f hf).other W (Or.inl ne), I.2.2⟩
theorem oHP.at {Z : State} {h0 h : Heap} {lo : Nat} {ds : oDs} (H : oHP Z h0 lo h ds) {i : Nat} {a : Addr} {d : oD} (hi : ds[i]? = some (a, d)) : h0.size ≤ a ∧ oIs Z h a d := H.2.2 (a, d) (List.mem_of_getElem? hi)
theorem oHP.more {Z : State} {h0 h h' : Heap} {lo : Nat} {ds : oDs} (H : oHP Z h0 lo h ds) (E : Ext h h') {lo' : Nat} (hlo : lo' ≤ h'.size) : oHP Z h0 lo' h' ds := ⟨⟨oExt.trans H.1.1 E, hlo⟩, H.2.1, fun x hx => ⟨(H.2.2 x hx).1, (H.2.2 x hx).2.ext E⟩⟩
theorem oHP.new {Z : State} {h0 h h' : Heap} {lo : Nat} {ds : oDs} (H : oHP Z h0 lo h ds) (E : Ext h h') {d : oD} (I : oIs Z h' h.size d) : oHP Z h0 lo h' ((h.size, d) :: ds) := by
  refine ⟨⟨oExt.trans H.1.1 E, Nat.le_trans H.1.2 E.1⟩, ?_, ?_⟩
  · rw [List.map_cons, List.nodup_cons]
    refine ⟨fun q => ?_, H.2.1⟩
    obtain ⟨x, hx, e⟩ := List.mem_map.mp q
    exact absurd e (Nat.ne_of_lt (H.2.2 x hx).2.lt)
  · intro x hx
    rcases List.mem_cons.mp hx with rfl | hx
    · exact ⟨H.1.1.1, I⟩
    · exact ⟨(H.2.2 x hx).1, (H.2.2 x hx).2.ext E⟩
theorem oHP.ne {Z : State} {h0 h : Heap} {lo : Nat} {ds : oDs} (H : oHP Z h0 lo h ds) {i j : Nat} {x y : Addr × oD} (hi : ds[i]? = some x) (hj : ds[j]? = some y) (ne : i ≠ j) : x.1 ≠ y.1 := by
  intro q
  have h1 : (ds.map (·.1))[i]? = some x.1 := by rw [List.getElem?_map, hi]; rfl
  have h2 : (ds.map (·.1))[j]? = some x.1 := by rw [List.getElem?_map, hj, q]; rfl
  obtain ⟨l1, e1⟩ := List.getElem?_eq_some_iff.mp h1
  obtain ⟨l2, e2⟩ := List.getElem?_eq_some_iff.mp h2
  have P := List.pairwise_iff_getElem.mp (List.nodup_iff_pairwise_ne.mp H.2.1)
  rcases Nat.lt_or_gt_of_ne ne with r | r
  · exact P i j l1 l2 r (e1.trans e2.symm)
  · exact P j i l2 l1 r (e2.trans e1.symm)
theorem oHP.wr {Z : State} {h0 h h' : Heap} {lo : Nat} {ds : oDs} (H : oHP Z h0 lo h ds) {i : Nat} {a : Addr} {d d' : oD} {sl : Nat} {v : Value} (hi : ds[i]? = some (a, d)) (W : Wr h h' a sl v) (I : oIs Z h' a d') : oHP Z h0 lo h' (ds.set i (a, d')) := by
  have hl : i < ds.length := (List.getElem?_eq_some_iff.mp hi).1
  have ha := (H.at hi).1
  refine ⟨?_, ?_, ?_⟩
  · obtain ⟨cell, w1, w2, w3, w4⟩ := W
    refine ⟨⟨by rw [w4]; simpa using H.1.1.1, fun b cb hb => ?_⟩, by rw [w4]; simpa using H.1.2⟩
    have hb' := H.1.1.2 b cb hb
    have hlt : b < h0.size := (Array.getElem?_eq_some_iff.mp hb).1
    rw [w4, Array.getElem?_setIfInBounds_ne (Nat.ne_of_gt (Nat.lt_of_lt_of_le hlt ha))]
    exact hb'
  · have e : (ds.set i (a, d')).map (·.1) = ds.map (·.1) := by
      rw [List.map_set]
      have h1 : (ds.map (·.1))[i]? = some a := by rw [List.getElem?_map, hi]; rfl
      obtain ⟨l1, e1⟩ := List.getElem?_eq_some_iff.mp h1
      show (ds.map (·.1)).set i a = _
      rw [← e1, List.set_getElem_self]
    rw [e]; exact H.2.1
  · intro x hx
    obtain ⟨j, hj⟩ := List.mem_iff_getElem?.mp hx
    rw [List.getElem?_set] at hj
    by_cases q : i = j
    · rw [if_pos q, if_pos hl] at hj
      cases hj; exact ⟨ha, I⟩
    · rw [if_neg q] at hj
      have ne : x.1 ≠ a := H.ne hj hi (Ne.symm q)
      obtain ⟨g1, g2⟩ := H.2.2 x (List.mem_of_getElem? hj)
      exact ⟨g1, g2.other W ne⟩
def oB (p : Program) (l : Launch) (e : Env) (R : Room) (s : State) (m : MethodId) (args : Array Value) (below : List Frame) (meth : Method) (c : Code) (Z : State) (h0 : Heap) (lo : Nat) (T : State) (cells slots : Nat) (ds : oDs) : Prop :=
  p.tables.exec = Jvm.exec ∧ Z.Warmed39 s.vm ∧ meth.locks = false ∧ ∃ locs, Stand p l e R s m args below meth c T locs cells slots ∧ Fr h0.size locs ∧ oHP Z h0 lo T.heap ds
def oWin (p : Program) (e : Env) (below : List Frame) (Z : State) (h0 : Heap) (Q : Option Value → oDs → Prop) (E : Outcome → State → List Loc → Prop) (S : State) : Prop :=
  ∃ U o, Steps p.tables e below S U ∧ U.status = .running ∧ Ended U below o ∧ ∃ v L, o = .returned v ∧ (Fr h0.size L ∧ ∃ lo ds, oHP Z h0 lo U.heap ds ∧ Q v ds) ∧ E o U L
/-- the end of a walk, said of the walk's start: the plain frame; the wide one (a String constant may have been interned) -/
def oFE (s : State) (lo kc ks : Nat) (o : Outcome) (U : State) (L : List Loc) : Prop := lo ≤ U.heap.size ∧ FrameEnd s o U L kc ks
def oFW (s : State) (kc ks : Nat) (o : Outcome) (U : State) (L : List Loc) : Prop := ReturnedEndW s o U L kc ks
def oMet (l : Launch) (Z : State) (h0 : Heap) (lo : Nat) (y : MethodName) (bytes : ByteArray) (maxL : Nat) (ret : Option FieldType) (ws : List Jvm.Cond) (rm : Room) (as : Array Value) (ds : oDs) (Q : Option Value → oDs → Prop) : Prop :=
  ∀ h, oHP Z h0 lo h ds → MetFree l y (head1 (Jvm.Cond.code y bytes maxL ret :: ws) rm) (fun a U => a = as ∧ Z.Warmed39 U.vm ∧ U.heap = h) (fun _ _ _ _ _ => True) (fun _ U o U' => ∃ v L, o = .returned v ∧ (Fr h0.size L ∧ ∃ ds', oHP Z h0 lo U'.heap ds' ∧ Q v ds') ∧ FrameEnd U o U' L rm.cells rm.slots)
def oMetW (l : Launch) (Z : State) (h0 : Heap) (lo : Nat) (y : MethodName) (bytes : ByteArray) (maxL : Nat) (ret : Option FieldType) (ws : List Jvm.Cond) (rm : Room) (as : Array Value) (ds : oDs) (Q : Option Value → oDs → Prop) : Prop :=
  ∀ h, oHP Z h0 lo h ds → MetFree l y (head1 (Jvm.Cond.code y bytes maxL ret :: ws) rm) (fun a U => a = as ∧ Z.Warmed39 U.vm ∧ U.heap = h) (fun _ _ _ _ _ => True) (fun _ U o U' => ∃ v L, o = .returned v ∧ (Fr h0.size L ∧ ∃ lo' ds', oHP Z h0 lo' U'.heap ds' ∧ Q v ds') ∧ ReturnedEndW U o U' L rm.cells rm.slots)
theorem oMet.of_body {l : Launch} {Z : State} {h0 : Heap} {lo : Nat} {y : MethodName} {bytes : ByteArray} {maxL : Nat} {ret : Option FieldType} {ws : List Jvm.Cond} {rm : Room} {as : Array Value} {ds : oDs} {Q : Option Value → oDs → Prop} (hpl : plainFor y = true)
    (body : ∀ p e s m below meth c T, oB p l e rm s m as below meth c Z h0 lo T 0 0 ds → c.code = bytes → c.maxLocals = maxL → s.vm.findClass y.cls = some m.cls → meth.name = y.name → meth.sig.returnType = ret → oWin p e below Z h0 Q (oFE s lo rm.cells rm.slots) (T.setTop (entryFrame m as maxL))) : oMet l Z h0 lo y bytes maxL ret ws rm as ds Q := by
  intro h hH
  refine MetFree.of_bodySF hpl hisR ?_
  intro p e s m args below meth c s₁ Bd hml hP hK
  obtain ⟨rfl, hZ, hh⟩ := hP
  have e0 : s₁.heap = h := by rw [← hh, Bd.state]; rfl
  obtain ⟨U, o, h1, h2, h3, v, L, h4, ⟨h5, lo', ds', h6, h7⟩, h8, h9⟩ := body p e s m below meth c s₁ ⟨Bd.exec, hZ, Bd.notSynchronized, [], Stand.of_body Bd, Fr.nil _, e0 ▸ hH⟩ Bd.bytes hml (findClass_of_methodNamed Bd.named) (name_of_methodNamed Bd.named Bd.method).1 Bd.returns
  exact ⟨U, o, h1, h2, h3, v, L, h4, ⟨h5, ds', ⟨⟨h6.1.1, h8⟩, h6.2⟩, h7⟩, h9⟩
theorem oMetW.of_body {l : Launch} {Z : State} {h0 : Heap} {lo : Nat} {y : MethodName} {bytes : ByteArray} {maxL : Nat} {ret : Option FieldType} {ws : List Jvm.Cond} {rm : Room} {as : Array Value} {ds : oDs} {Q : Option Value → oDs → Prop} (hpl : plainFor y = true)
    (body : ∀ p e s m below meth c T (vm : Vm), oB p l e rm (s.setVm vm) m as below meth c Z h0 lo T 0 0 ds → s.Since vm lo → c.code = bytes → c.maxLocals = maxL → (s.setVm vm).vm.findClass y.cls = some m.cls → meth.name = y.name → meth.sig.returnType = ret → oWin p e below Z h0 Q (oFW s rm.cells rm.slots) (T.setTop (entryFrame m as maxL))) : oMetW l Z h0 lo y bytes maxL ret ws rm as ds Q := by
  intro h hH
  refine MetFree.of_bodySF hpl hisR ?_
  intro p e s m args below meth c s₁ Bd hml hP hK
  obtain ⟨rfl, hZ, hh⟩ := hP
  have e0 : s₁.heap = h := by rw [← hh, Bd.state]; rfl
  exact body p e s m below meth c s₁ s.vm ⟨Bd.exec, hZ, Bd.notSynchronized, [], Stand.of_body Bd, Fr.nil _, e0 ▸ hH⟩ ((State.WarmedH.refl s).since lo) Bd.bytes hml (findClass_of_methodNamed Bd.named) (name_of_methodNamed Bd.named Bd.method).1 Bd.returns
section Wlaws
variable {p : Program} {l : Launch} {e : Env} {R : Room} {s : State} {m : MethodId} {args : Array Value} {below : List Frame} {meth : Method} {c : Code} {Z : State} {a0 : Array Value} {h0 : Heap} {lo : Nat} {T : State} {cells slots : Nat} {ds ds' : oDs} {Q : Option Value → oDs → Prop} {E : Outcome → State → List Loc → Prop} {kc ks : Nat} {pc pc' : Nat} {ls ls' : Array Slot} {st : List Value}
theorem oWin.step {S S' : State} (w : oWin p e below Z h0 Q E S') (k : ∀ t, Steps p.tables e below S' t → Steps p.tables e below S t) : oWin p e below Z h0 Q E S := by
  obtain ⟨U, o, h1, r⟩ := w; exact ⟨U, o, k _ h1, r⟩
theorem oWin.steps {S S' : State} (w : oWin p e below Z h0 Q E S') (k : Steps p.tables e below S S') : oWin p e below Z h0 Q E S := by
  obtain ⟨U, o, h1, r⟩ := w; exact ⟨U, o, k.trans h1, r⟩
theorem W_entry {as : Array Value} {maxL : Nat} (h : entryFrame m as maxL = mkF m 0 ls []) (w : oWin p e below Z h0 Q E (T.setTop (mkF m 0 ls []))) : oWin p e below Z h0 Q E (T.setTop (entryFrame m as maxL)) := by rw [h]; exact w
theorem W_iload (B : oB p l e R s m args below meth c Z h0 lo T cells slots ds) {i : Nat} {v : Int32} (hd : decode c.code pc = .ok (.iload i, 2)) (hp : pc + 2 = pc') (hl : ls[i]? = some (.val (.int v))) (w : oWin p e below Z h0 Q E (T.setTop (mkF m pc' ls (.int v :: st)))) : oWin p e below Z h0 Q E (T.setTop (mkF m pc ls (st))) := by
  subst hp
  obtain ⟨hx, hZ, hlk, locs, X, N, H⟩ := B
  exact w.step fun t k => XS.iload X.here hx rfl hd hl k
theorem W_iloadN (B : oB p l e R s m args below meth c Z h0 lo T cells slots ds) {i : Fin 4} {v : Int32} (hd : decode c.code pc = .ok (.iload_n i, 1)) (hp : pc + 1 = pc') (hl : ls[i.val]? = some (.val (.int v))) (w : oWin p e below Z h0 Q E (T.setTop (mkF m pc' ls (.int v :: st)))) : oWin p e below Z h0 Q E (T.setTop (mkF m pc ls (st))) := by
  subst hp
  obtain ⟨hx, hZ, hlk, locs, X, N, H⟩ := B
  exact w.step fun t k => XS.iloadN X.here hx rfl hd hl k
theorem W_istore (B : oB p l e R s m args below meth c Z h0 lo T cells slots ds) {i : Nat} {x v : Int32} (hd : decode c.code pc = .ok (.istore i, 2)) (hp : pc + 2 = pc') (hz : x = v) (hl : storeLocals ls i (.int v) = some ls') (w : oWin p e below Z h0 Q E (T.setTop (mkF m pc' ls' (st)))) : oWin p e below Z h0 Q E (T.setTop (mkF m pc ls (.int x :: st))) := by
  subst hp hz
  obtain ⟨hx, hZ, hlk, locs, X, N, H⟩ := B
  exact w.step fun t k => XS.istore X.here hx rfl hd rfl hl k
theorem W_istoreN (B : oB p l e R s m args below meth c Z h0 lo T cells slots ds) {i : Fin 4} {x v : Int32} (hd : decode c.code pc = .ok (.istore_n i, 1)) (hp : pc + 1 = pc') (hz : x = v) (hl : storeLocals ls i.val (.int v) = some ls') (w : oWin p e below Z h0 Q E (T.setTop (mkF m pc' ls' (st)))) : oWin p e below Z h0 Q E (T.setTop (mkF m pc ls (.int x :: st))) := by
  subst hp hz
  obtain ⟨hx, hZ, hlk, locs, X, N, H⟩ := B
  exact w.step fun t k => XS.istoreN X.here hx rfl hd rfl hl k
theorem W_iadd (B : oB p l e R s m args below meth c Z h0 lo T cells slots ds) {x y z : Int32} (hd : decode c.code pc = .ok (.iadd, 1)) (hp : pc + 1 = pc') (hz : x + y = z) (w : oWin p e below Z h0 Q E (T.setTop (mkF m pc' ls (.int z :: st)))) : oWin p e below Z h0 Q E (T.setTop (mkF m pc ls (.int y :: .int x :: st))) := by
  subst hp hz
  obtain ⟨hx, hZ, hlk, locs, X, N, H⟩ := B
  exact w.step fun t k => XS.iadd X.here hx rfl hd rfl k
theorem W_isub (B : oB p l e R s m args below meth c Z h0 lo T cells slots ds) {x y z : Int32} (hd : decode c.code pc = .ok (.isub, 1)) (hp : pc + 1 = pc') (hz : x - y = z) (w : oWin p e below Z h0 Q E (T.setTop (mkF m pc' ls (.int z :: st)))) : oWin p e below Z h0 Q E (T.setTop (mkF m pc ls (.int y :: .int x :: st))) := by
  subst hp hz
  obtain ⟨hx, hZ, hlk, locs, X, N, H⟩ := B
  exact w.step fun t k => XS.isub X.here hx rfl hd rfl k
theorem W_imul (B : oB p l e R s m args below meth c Z h0 lo T cells slots ds) {x y z : Int32} (hd : decode c.code pc = .ok (.imul, 1)) (hp : pc + 1 = pc') (hz : x * y = z) (w : oWin p e below Z h0 Q E (T.setTop (mkF m pc' ls (.int z :: st)))) : oWin p e below Z h0 Q E (T.setTop (mkF m pc ls (.int y :: .int x :: st))) := by
  subst hp hz
  obtain ⟨hx, hZ, hlk, locs, X, N, H⟩ := B
  exact w.step fun t k => XS.imul X.here hx rfl hd rfl k
theorem W_iand (B : oB p l e R s m args below meth c Z h0 lo T cells slots ds) {x y z : Int32} (hd : decode c.code pc = .ok (.iand, 1)) (hp : pc + 1 = pc') (hz : x &&& y = z) (w : oWin p e below Z h0 Q E (T.setTop (mkF m pc' ls (.int z :: st)))) : oWin p e below Z h0 Q E (T.setTop (mkF m pc ls (.int y :: .int x :: st))) := by
  subst hp hz
  obtain ⟨hx, hZ, hlk, locs, X, N, H⟩ := B
  exact w.step fun t k => XS.iand X.here hx rfl hd rfl k
theorem W_ior (B : oB p l e R s m args below meth c Z h0 lo T cells slots ds) {x y z : Int32} (hd : decode c.code pc = .ok (.ior, 1)) (hp : pc + 1 = pc') (hz : x ||| y = z) (w : oWin p e below Z h0 Q E (T.setTop (mkF m pc' ls (.int z :: st)))) : oWin p e below Z h0 Q E (T.setTop (mkF m pc ls (.int y :: .int x :: st))) := by
  subst hp hz
  obtain ⟨hx, hZ, hlk, locs, X, N, H⟩ := B
  exact w.step fun t k => XS.ior X.here hx rfl hd rfl k
theorem W_ixor (B : oB p l e R s m args below meth c Z h0 lo T cells slots ds) {x y z : Int32} (hd : decode c.code pc = .ok (.ixor, 1)) (hp : pc + 1 = pc') (hz : x ^^^ y = z) (w : oWin p e below Z h0 Q E (T.setTop (mkF m pc' ls (.int z :: st)))) : oWin p e below Z h0 Q E (T.setTop (mkF m pc ls (.int y :: .int x :: st))) := by
  subst hp hz
  obtain ⟨hx, hZ, hlk, locs, X, N, H⟩ := B
  exact w.step fun t k => XS.ixor X.here hx rfl hd rfl k
theorem W_ineg (B : oB p l e R s m args below meth c Z h0 lo T cells slots ds) {x z : Int32} (hd : decode c.code pc = .ok (.ineg, 1)) (hp : pc + 1 = pc') (hz : -x = z) (w : oWin p e below Z h0 Q E (T.setTop (mkF m pc' ls (.int z :: st)))) : oWin p e below Z h0 Q E (T.setTop (mkF m pc ls (.int x :: st))) := by
  subst hp hz
  obtain ⟨hx, hZ, hlk, locs, X, N, H⟩ := B
  exact w.step fun t k => XS.ineg X.here hx rfl hd rfl k
theorem W_idiv (B : oB p l e R s m args below meth c Z h0 lo T cells slots ds) {x y z : Int32} (hd : decode c.code pc = .ok (.idiv, 1)) (hp : pc + 1 = pc') (hy : y ≠ 0) (hz : x / y = z) (w : oWin p e below Z h0 Q E (T.setTop (mkF m pc' ls (.int z :: st)))) : oWin p e below Z h0 Q E (T.setTop (mkF m pc ls (.int y :: .int x :: st))) := by
  subst hp hz
  obtain ⟨hx, hZ, hlk, locs, X, N, H⟩ := B
  exact w.step fun t k => XS.idiv X.here hx rfl hd rfl hy k
theorem W_lload (B : oB p l e R s m args below meth c Z h0 lo T cells slots ds) {i : Nat} {v : Int64} (hd : decode c.code pc = .ok (.lload i, 2)) (hp : pc + 2 = pc') (hl : ls[i]? = some (.val (.long v))) (w : oWin p e below Z h0 Q E (T.setTop (mkF m pc' ls (.long v :: st)))) : oWin p e below Z h0 Q E (T.setTop (mkF m pc ls (st))) := by
  subst hp
  obtain ⟨hx, hZ, hlk, locs, X, N, H⟩ := B
  exact w.step fun t k => XS.lload X.here hx rfl hd hl k
theorem W_lloadN (B : oB p l e R s m args below meth c Z h0 lo T cells slots ds) {i : Fin 4} {v : Int64} (hd : decode c.code pc = .ok (.lload_n i, 1)) (hp : pc + 1 = pc') (hl : ls[i.val]? = some (.val (.long v))) (w : oWin p e below Z h0 Q E (T.setTop (mkF m pc' ls (.long v :: st)))) : oWin p e below Z h0 Q E (T.setTop (mkF m pc ls (st))) := by
  subst hp
  obtain ⟨hx, hZ, hlk, locs, X, N, H⟩ := B
  exact w.step fun t k => XS.lloadN X.here hx rfl hd hl k
theorem W_lstore (B : oB p l e R s m args below meth c Z h0 lo T cells slots ds) {i : Nat} {x v : Int64} (hd : decode c.code pc = .ok (.lstore i, 2)) (hp : pc + 2 = pc') (hz : x = v) (hl : storeLocals ls i (.long v) = some ls') (w : oWin p e below Z h0 Q E (T.setTop (mkF m pc' ls' (st)))) : oWin p e below Z h0 Q E (T.setTop (mkF m pc ls (.long x :: st))) := by
  subst hp hz
  obtain ⟨hx, hZ, hlk, locs, X, N, H⟩ := B
  exact w.step fun t k => XS.lstore X.here hx rfl hd rfl hl k
theorem W_lstoreN (B : oB p l e R s m args below meth c Z h0 lo T cells slots ds) {i : Fin 4} {x v : Int64} (hd : decode c.code pc = .ok (.lstore_n i, 1)) (hp : pc + 1 = pc') (hz : x = v) (hl : storeLocals ls i.val (.long v) = some ls') (w : oWin p e below Z h0 Q E (T.setTop (mkF m pc' ls' (st)))) : oWin p e below Z h0 Q E (T.setTop (mkF m pc ls (.long x :: st))) := by
  subst hp hz
  obtain ⟨hx, hZ, hlk, locs, X, N, H⟩ := B
  exact w.step fun t k => XS.lstoreN X.here hx rfl hd rfl hl k
theorem W_ladd (B : oB p l e R s m args below meth c Z h0 lo T cells slots ds) {x y z : Int64} (hd : decode c.code pc = .ok (.ladd, 1)) (hp : pc + 1 = pc') (hz : x + y = z) (w : oWin p e below Z h0 Q E (T.setTop (mkF m pc' ls (.long z :: st)))) : oWin p e below Z h0 Q E (T.setTop (mkF m pc ls (.long y :: .long x :: st))) := by
  subst hp hz
  obtain ⟨hx, hZ, hlk, locs, X, N, H⟩ := B
  exact w.step fun t k => XS.ladd X.here hx rfl hd rfl k
theorem W_lsub (B : oB p l e R s m args below meth c Z h0 lo T cells slots ds) {x y z : Int64} (hd : decode c.code pc = .ok (.lsub, 1)) (hp : pc + 1 = pc') (hz : x - y = z) (w : oWin p e below Z h0 Q E (T.setTop (mkF m pc' ls (.long z :: st)))) : oWin p e below Z h0 Q E (T.setTop (mkF m pc ls (.long y :: .long x :: st))) := by
  subst hp hz
  obtain ⟨hx, hZ, hlk, locs, X, N, H⟩ := B
  exact w.step fun t k => XS.lsub X.here hx rfl hd rfl k
theorem W_lmul (B : oB p l e R s m args below meth c Z h0 lo T cells slots ds) {x y z : Int64} (hd : decode c.code pc = .ok (.lmul, 1)) (hp : pc + 1 = pc') (hz : x * y = z) (w : oWin p e below Z h0 Q E (T.setTop (mkF m pc' ls (.long z :: st)))) : oWin p e below Z h0 Q E (T.setTop (mkF m pc ls (.long y :: .long x :: st))) := by
  subst hp hz
  obtain ⟨hx, hZ, hlk, locs, X, N, H⟩ := B
  exact w.step fun t k => XS.lmul X.here hx rfl hd rfl k
theorem W_land (B : oB p l e R s m args below meth c Z h0 lo T cells slots ds) {x y z : Int64} (hd : decode c.code pc = .ok (.land, 1)) (hp : pc + 1 = pc') (hz : x &&& y = z) (w : oWin p e below Z h0 Q E (T.setTop (mkF m pc' ls (.long z :: st)))) : oWin p e below Z h0 Q E (T.setTop (mkF m pc ls (.long y :: .long x :: st))) := by
  subst hp hz
  obtain ⟨hx, hZ, hlk, locs, X, N, H⟩ := B
  exact w.step fun t k => XS.land X.here hx rfl hd rfl k
theorem W_lor (B : oB p l e R s m args below meth c Z h0 lo T cells slots ds) {x y z : Int64} (hd : decode c.code pc = .ok (.lor, 1)) (hp : pc + 1 = pc') (hz : x ||| y = z) (w : oWin p e below Z h0 Q E (T.setTop (mkF m pc' ls (.long z :: st)))) : oWin p e below Z h0 Q E (T.setTop (mkF m pc ls (.long y :: .long x :: st))) := by
  subst hp hz
  obtain ⟨hx, hZ, hlk, locs, X, N, H⟩ := B
  exact w.step fun t k => XS.lor X.here hx rfl hd rfl k
theorem W_lxor (B : oB p l e R s m args below meth c Z h0 lo T cells slots ds) {x y z : Int64} (hd : decode c.code pc = .ok (.lxor, 1)) (hp : pc + 1 = pc') (hz : x ^^^ y = z) (w : oWin p e below Z h0 Q E (T.setTop (mkF m pc' ls (.long z :: st)))) : oWin p e below Z h0 Q E (T.setTop (mkF m pc ls (.long y :: .long x :: st))) := by
  subst hp hz
  obtain ⟨hx, hZ, hlk, locs, X, N, H⟩ := B
  exact w.step fun t k => XS.lxor X.here hx rfl hd rfl k
theorem W_lneg (B : oB p l e R s m args below meth c Z h0 lo T cells slots ds) {x z : Int64} (hd : decode c.code pc = .ok (.lneg, 1)) (hp : pc + 1 = pc') (hz : -x = z) (w : oWin p e below Z h0 Q E (T.setTop (mkF m pc' ls (.long z :: st)))) : oWin p e below Z h0 Q E (T.setTop (mkF m pc ls (.long x :: st))) := by
  subst hp hz
  obtain ⟨hx, hZ, hlk, locs, X, N, H⟩ := B
  exact w.step fun t k => XS.lneg X.here hx rfl hd rfl k
theorem W_ldiv (B : oB p l e R s m args below meth c Z h0 lo T cells slots ds) {x y z : Int64} (hd : decode c.code pc = .ok (.ldiv, 1)) (hp : pc + 1 = pc') (hy : y ≠ 0) (hz : x / y = z) (w : oWin p e below Z h0 Q E (T.setTop (mkF m pc' ls (.long z :: st)))) : oWin p e below Z h0 Q E (T.setTop (mkF m pc ls (.long y :: .long x :: st))) := by
  subst hp hz
  obtain ⟨hx, hZ, hlk, locs, X, N, H⟩ := B
  exact w.step fun t k => XS.ldiv X.here hx rfl hd rfl hy k
theorem W_irem (B : oB p l e R s m args below meth c Z h0 lo T cells slots ds) {x y z : Int32} (hd : decode c.code pc = .ok (.irem, 1)) (hp : pc + 1 = pc') (hy : y ≠ 0) (hz : x % y = z) (w : oWin p e below Z h0 Q E (T.setTop (mkF m pc' ls (.int z :: st)))) : oWin p e below Z h0 Q E (T.setTop (mkF m pc ls (.int y :: .int x :: st))) := by
  subst hp hz
  obtain ⟨hx, hZ, hlk, locs, X, N, H⟩ := B
  exact w.step fun t k => iremM X hx rfl hd rfl hy k
theorem W_lrem (B : oB p l e R s m args below meth c Z h0 lo T cells slots ds) {x y z : Int64} (hd : decode c.code pc = .ok (.lrem, 1)) (hp : pc + 1 = pc') (hy : y ≠ 0) (hz : x - (x / y) * y = z) (w : oWin p e below Z h0 Q E (T.setTop (mkF m pc' ls (.long z :: st)))) : oWin p e below Z h0 Q E (T.setTop (mkF m pc ls (.long y :: .long x :: st))) := by
  subst hp hz
  obtain ⟨hx, hZ, hlk, locs, X, N, H⟩ := B
  exact w.step fun t k => XS.lrem X.here hx rfl hd rfl hy k
theorem W_ishl (B : oB p l e R s m args below meth c Z h0 lo T cells slots ds) {x y z : Int32} (hd : decode c.code pc = .ok (.ishl, 1)) (hp : pc + 1 = pc') (hz : x <<< (y &&& 31) = z) (w : oWin p e below Z h0 Q E (T.setTop (mkF m pc' ls (.int z :: st)))) : oWin p e below Z h0 Q E (T.setTop (mkF m pc ls (.int y :: .int x :: st))) := by
  subst hp hz
  obtain ⟨hx, hZ, hlk, locs, X, N, H⟩ := B
  exact w.step fun t k => XS.ishl X.here hx rfl hd rfl k
theorem W_ishr (B : oB p l e R s m args below meth c Z h0 lo T cells slots ds) {x y z : Int32} (hd : decode c.code pc = .ok (.ishr, 1)) (hp : pc + 1 = pc') (hz : x >>> (y &&& 31) = z) (w : oWin p e below Z h0 Q E (T.setTop (mkF m pc' ls (.int z :: st)))) : oWin p e below Z h0 Q E (T.setTop (mkF m pc ls (.int y :: .int x :: st))) := by
  subst hp hz
  obtain ⟨hx, hZ, hlk, locs, X, N, H⟩ := B
  exact w.step fun t k => XS.ishr X.here hx rfl hd rfl k
theorem W_iushr (B : oB p l e R s m args below meth c Z h0 lo T cells slots ds) {x y z : Int32} (hd : decode c.code pc = .ok (.iushr, 1)) (hp : pc + 1 = pc') (hz : (x.toUInt32 >>> (y &&& 31).toUInt32).toInt32 = z) (w : oWin p e below Z h0 Q E (T.setTop (mkF m pc' ls (.int z :: st)))) : oWin p e below Z h0 Q E (T.setTop (mkF m pc ls (.int y :: .int x :: st))) := by
  subst hp hz
  obtain ⟨hx, hZ, hlk, locs, X, N, H⟩ := B
  exact w.step fun t k => XS.iushr X.here hx rfl hd rfl k
theorem W_lshl (B : oB p l e R s m args below meth c Z h0 lo T cells slots ds) {x : Int64} {y : Int32} {z : Int64} (hd : decode c.code pc = .ok (.lshl, 1)) (hp : pc + 1 = pc') (hz : x <<< (y &&& 0x3f).toInt64 = z) (w : oWin p e below Z h0 Q E (T.setTop (mkF m pc' ls (.long z :: st)))) : oWin p e below Z h0 Q E (T.setTop (mkF m pc ls (.int y :: .long x :: st))) := by
  subst hp hz
  obtain ⟨hx, hZ, hlk, locs, X, N, H⟩ := B
  exact w.step fun t k => XS.lshl X.here hx rfl hd rfl k
theorem W_lshr (B : oB p l e R s m args below meth c Z h0 lo T cells slots ds) {x : Int64} {y : Int32} {z : Int64} (hd : decode c.code pc = .ok (.lshr, 1)) (hp : pc + 1 = pc') (hz : x >>> (y &&& 0x3f).toInt64 = z) (w : oWin p e below Z h0 Q E (T.setTop (mkF m pc' ls (.long z :: st)))) : oWin p e below Z h0 Q E (T.setTop (mkF m pc ls (.int y :: .long x :: st))) := by
  subst hp hz
  obtain ⟨hx, hZ, hlk, locs, X, N, H⟩ := B
  exact w.step fun t k => XS.lshr X.here hx rfl hd rfl k
theorem W_lushr (B : oB p l e R s m args below meth c Z h0 lo T cells slots ds) {x : Int64} {y : Int32} {z : Int64} (hd : decode c.code pc = .ok (.lushr, 1)) (hp : pc + 1 = pc') (hz : (x.toUInt64 >>> (y &&& 0x3f).toInt64.toUInt64).toInt64 = z) (w : oWin p e below Z h0 Q E (T.setTop (mkF m pc' ls (.long z :: st)))) : oWin p e below Z h0 Q E (T.setTop (mkF m pc ls (.int y :: .long x :: st))) := by
  subst hp hz
  obtain ⟨hx, hZ, hlk, locs, X, N, H⟩ := B
  exact w.step fun t k => XS.lushr X.here hx rfl hd rfl k
theorem W_i2b (B : oB p l e R s m args below meth c Z h0 lo T cells slots ds) {x : Int32} {z : Int32} (hd : decode c.code pc = .ok (.i2b, 1)) (hp : pc + 1 = pc') (hz : x.toInt8.toInt32 = z) (w : oWin p e below Z h0 Q E (T.setTop (mkF m pc' ls (.int z :: st)))) : oWin p e below Z h0 Q E (T.setTop (mkF m pc ls (.int x :: st))) := by
  subst hp hz
  obtain ⟨hx, hZ, hlk, locs, X, N, H⟩ := B
  exact w.step fun t k => XS.i2b X.here hx rfl hd rfl k
theorem W_i2c (B : oB p l e R s m args below meth c Z h0 lo T cells slots ds) {x : Int32} {z : Int32} (hd : decode c.code pc = .ok (.i2c, 1)) (hp : pc + 1 = pc') (hz : x.toUInt32.toUInt16.toUInt32.toInt32 = z) (w : oWin p e below Z h0 Q E (T.setTop (mkF m pc' ls (.int z :: st)))) : oWin p e below Z h0 Q E (T.setTop (mkF m pc ls (.int x :: st))) := by
  subst hp hz
  obtain ⟨hx, hZ, hlk, locs, X, N, H⟩ := B
  exact w.step fun t k => XS.i2c X.here hx rfl hd rfl k
theorem W_i2s (B : oB p l e R s m args below meth c Z h0 lo T cells slots ds) {x : Int32} {z : Int32} (hd : decode c.code pc = .ok (.i2s, 1)) (hp : pc + 1 = pc') (hz : x.toInt16.toInt32 = z) (w : oWin p e below Z h0 Q E (T.setTop (mkF m pc' ls (.int z :: st)))) : oWin p e below Z h0 Q E (T.setTop (mkF m pc ls (.int x :: st))) := by
  subst hp hz
  obtain ⟨hx, hZ, hlk, locs, X, N, H⟩ := B
  exact w.step fun t k => XS.i2s X.here hx rfl hd rfl k
theorem W_i2l (B : oB p l e R s m args below meth c Z h0 lo T cells slots ds) {x : Int32} {z : Int64} (hd : decode c.code pc = .ok (.i2l, 1)) (hp : pc + 1 = pc') (hz : x.toInt64 = z) (w : oWin p e below Z h0 Q E (T.setTop (mkF m pc' ls (.long z :: st)))) : oWin p e below Z h0 Q E (T.setTop (mkF m pc ls (.int x :: st))) := by
  subst hp hz
  obtain ⟨hx, hZ, hlk, locs, X, N, H⟩ := B
  exact w.step fun t k => XS.i2l X.here hx rfl hd rfl k
theorem W_l2i (B : oB p l e R s m args below meth c Z h0 lo T cells slots ds) {x : Int64} {z : Int32} (hd : decode c.code pc = .ok (.l2i, 1)) (hp : pc + 1 = pc') (hz : x.toInt32 = z) (w : oWin p e below Z h0 Q E (T.setTop (mkF m pc' ls (.int z :: st)))) : oWin p e below Z h0 Q E (T.setTop (mkF m pc ls (.long x :: st))) := by
  subst hp hz
  obtain ⟨hx, hZ, hlk, locs, X, N, H⟩ := B
  exact w.step fun t k => XS.l2i X.here hx rfl hd rfl k
theorem W_iconst (B : oB p l e R s m args below meth c Z h0 lo T cells slots ds) {i : Int} {z : Int32} (hd : decode c.code pc = .ok (.iconst i, 1)) (hp : pc + 1 = pc') (hz : Int32.ofInt i = z) (w : oWin p e below Z h0 Q E (T.setTop (mkF m pc' ls (.int z :: st)))) : oWin p e below Z h0 Q E (T.setTop (mkF m pc ls (st))) := by
  subst hp hz
  obtain ⟨hx, hZ, hlk, locs, X, N, H⟩ := B
  exact w.step fun t k => XS.iconst X.here hx rfl hd k
theorem W_bipush (B : oB p l e R s m args below meth c Z h0 lo T cells slots ds) {i : Int} {z : Int32} (hd : decode c.code pc = .ok (.bipush i, 2)) (hp : pc + 2 = pc') (hz : (Int8.ofInt i).toInt32 = z) (w : oWin p e below Z h0 Q E (T.setTop (mkF m pc' ls (.int z :: st)))) : oWin p e below Z h0 Q E (T.setTop (mkF m pc ls (st))) := by
  subst hp hz
  obtain ⟨hx, hZ, hlk, locs, X, N, H⟩ := B
  exact w.step fun t k => XS.bipush X.here hx rfl hd k
theorem W_sipush (B : oB p l e R s m args below meth c Z h0 lo T cells slots ds) {i : Int} {z : Int32} (hd : decode c.code pc = .ok (.sipush i, 3)) (hp : pc + 3 = pc') (hz : (Int16.ofInt i).toInt32 = z) (w : oWin p e below Z h0 Q E (T.setTop (mkF m pc' ls (.int z :: st)))) : oWin p e below Z h0 Q E (T.setTop (mkF m pc ls (st))) := by
  subst hp hz
  obtain ⟨hx, hZ, hlk, locs, X, N, H⟩ := B
  exact w.step fun t k => XS.sipush X.here hx rfl hd k
theorem W_lconst (B : oB p l e R s m args below meth c Z h0 lo T cells slots ds) {i : Fin 2} {z : Int64} (hd : decode c.code pc = .ok (.lconst i, 1)) (hp : pc + 1 = pc') (hz : Int64.ofNat i = z) (w : oWin p e below Z h0 Q E (T.setTop (mkF m pc' ls (.long z :: st)))) : oWin p e below Z h0 Q E (T.setTop (mkF m pc ls (st))) := by
  subst hp hz
  obtain ⟨hx, hZ, hlk, locs, X, N, H⟩ := B
  exact w.step fun t k => XS.lconst X.here hx rfl hd k
theorem W_aconstNull (B : oB p l e R s m args below meth c Z h0 lo T cells slots ds)  (hd : decode c.code pc = .ok (.aconst_null, 1)) (hp : pc + 1 = pc')  (w : oWin p e below Z h0 Q E (T.setTop (mkF m pc' ls (.null :: st)))) : oWin p e below Z h0 Q E (T.setTop (mkF m pc ls (st))) := by
  subst hp
  obtain ⟨hx, hZ, hlk, locs, X, N, H⟩ := B
  exact w.step fun t k => XS.aconstNull X.here hx rfl hd k
theorem W_aload (B : oB p l e R s m args below meth c Z h0 lo T cells slots ds) {i : Nat} {v : Value} (hd : decode c.code pc = .ok (.aload i, 2)) (hp : pc + 2 = pc') (hl : ls[i]? = some (.val v)) (hv : v.isRef = true) (w : oWin p e below Z h0 Q E (T.setTop (mkF m pc' ls (v :: st)))) : oWin p e below Z h0 Q E (T.setTop (mkF m pc ls (st))) := by
  subst hp
  obtain ⟨hx, hZ, hlk, locs, X, N, H⟩ := B
  exact w.step fun t k => XS.aload X.here hx rfl hd hl hv k
theorem W_aloadN (B : oB p l e R s m args below meth c Z h0 lo T cells slots ds) {i : Fin 4} {v : Value} (hd : decode c.code pc = .ok (.aload_n i, 1)) (hp : pc + 1 = pc') (hl : ls[i.val]? = some (.val v)) (hv : v.isRef = true) (w : oWin p e below Z h0 Q E (T.setTop (mkF m pc' ls (v :: st)))) : oWin p e below Z h0 Q E (T.setTop (mkF m pc ls (st))) := by
  subst hp
  obtain ⟨hx, hZ, hlk, locs, X, N, H⟩ := B
  exact w.step fun t k => XS.aloadN X.here hx rfl hd hl hv k
theorem W_astore (B : oB p l e R s m args below meth c Z h0 lo T cells slots ds) {i : Nat} {x : Value} (hd : decode c.code pc = .ok (.astore i, 2)) (hp : pc + 2 = pc') (hv : x.isRef = true) (hl : storeLocals ls i x = some ls') (w : oWin p e below Z h0 Q E (T.setTop (mkF m pc' ls' (st)))) : oWin p e below Z h0 Q E (T.setTop (mkF m pc ls (x :: st))) := by
  subst hp
  obtain ⟨hx, hZ, hlk, locs, X, N, H⟩ := B
  exact w.step fun t k => XS.astore X.here hx rfl hd rfl hv hl k
theorem W_astoreN (B : oB p l e R s m args below meth c Z h0 lo T cells slots ds) {i : Fin 4} {x : Value} (hd : decode c.code pc = .ok (.astore_n i, 1)) (hp : pc + 1 = pc') (hv : x.isRef = true) (hl : storeLocals ls i.val x = some ls') (w : oWin p e below Z h0 Q E (T.setTop (mkF m pc' ls' (st)))) : oWin p e below Z h0 Q E (T.setTop (mkF m pc ls (x :: st))) := by
  subst hp
  obtain ⟨hx, hZ, hlk, locs, X, N, H⟩ := B
  exact w.step fun t k => XS.astoreN X.here hx rfl hd rfl hv hl k
theorem W_dup (B : oB p l e R s m args below meth c Z h0 lo T cells slots ds) {x : Value} (hd : decode c.code pc = .ok (.dup, 1)) (hp : pc + 1 = pc') (hc : x.category = 1) (w : oWin p e below Z h0 Q E (T.setTop (mkF m pc' ls (x :: x :: st)))) : oWin p e below Z h0 Q E (T.setTop (mkF m pc ls (x :: st))) := by
  subst hp
  obtain ⟨hx, hZ, hlk, locs, X, N, H⟩ := B
  exact w.step fun t k => XS.dup X.here hx rfl hd rfl hc k
theorem W_pop (B : oB p l e R s m args below meth c Z h0 lo T cells slots ds) {x : Value} (hd : decode c.code pc = .ok (.pop, 1)) (hp : pc + 1 = pc') (hc : x.category = 1) (w : oWin p e below Z h0 Q E (T.setTop (mkF m pc' ls (st)))) : oWin p e below Z h0 Q E (T.setTop (mkF m pc ls (x :: st))) := by
  subst hp
  obtain ⟨hx, hZ, hlk, locs, X, N, H⟩ := B
  exact w.step fun t k => XS.pop X.here hx rfl hd rfl hc k
theorem W_dupX1 (B : oB p l e R s m args below meth c Z h0 lo T cells slots ds) {x y : Value} (hd : decode c.code pc = .ok (.dup_x1, 1)) (hp : pc + 1 = pc') (hc : x.category = 1) (hc2 : y.category = 1) (w : oWin p e below Z h0 Q E (T.setTop (mkF m pc' ls (x :: y :: x :: st)))) : oWin p e below Z h0 Q E (T.setTop (mkF m pc ls (x :: y :: st))) := by
  subst hp
  obtain ⟨hx, hZ, hlk, locs, X, N, H⟩ := B
  exact w.step fun t k => XS.dupX1 X.here hx rfl hd rfl hc hc2 k
theorem W_dup2 (B : oB p l e R s m args below meth c Z h0 lo T cells slots ds) {x y : Value} (hd : decode c.code pc = .ok (.dup2, 1)) (hp : pc + 1 = pc') (hc : x.category = 1) (hc2 : y.category = 1) (w : oWin p e below Z h0 Q E (T.setTop (mkF m pc' ls (x :: y :: x :: y :: st)))) : oWin p e below Z h0 Q E (T.setTop (mkF m pc ls (x :: y :: st))) := by
  subst hp
  obtain ⟨hx, hZ, hlk, locs, X, N, H⟩ := B
  refine w.step fun t k => ?_
  show Steps p.tables e below (T.setTop { method := m, pc := pc, locals := ls, stack := x :: y :: st, locked := none }) _
  jvm_step X.here [X.here.top, hx, hd, hc, hc2]
  exact k
theorem W_iinc (B : oB p l e R s m args below meth c Z h0 lo T cells slots ds) {i : Nat} {d : Int} {x z : Int32} (hd : decode c.code pc = .ok (.iinc i d, 3)) (hp : pc + 3 = pc') (hl : ls[i]? = some (.val (.int x))) (hz : x + Int32.ofInt d = z) (hl' : storeLocals ls i (.int z) = some ls') (w : oWin p e below Z h0 Q E (T.setTop (mkF m pc' ls' (st)))) : oWin p e below Z h0 Q E (T.setTop (mkF m pc ls (st))) := by
  subst hp hz
  obtain ⟨hx, hZ, hlk, locs, X, N, H⟩ := B
  exact w.step fun t k => XS.iinc X.here hx rfl hd hl hl' k
theorem W_goto (B : oB p l e R s m args below meth c Z h0 lo T cells slots ds) {o : Int} (hd : decode c.code pc = .ok (.goto o, 3)) (ho : 0 ≤ (pc : Int) + o) (hp : ((pc : Int) + o).toNat = pc') (w : oWin p e below Z h0 Q E (T.setTop (mkF m pc' ls st))) : oWin p e below Z h0 Q E (T.setTop (mkF m pc ls st)) := by
  obtain ⟨hx, hZ, hlk, locs, X, N, H⟩ := B
  exact w.step fun t k => XS.goto X.here hx rfl rfl hd ho hp k
theorem W_icmpY (B : oB p l e R s m args below meth c Z h0 lo T cells slots ds) {cd : ClassFile.Cond} {x y : Int32} {o : Int} (hd : decode c.code pc = .ok (.if_icmp cd o, 3)) (ho : 0 ≤ (pc : Int) + o) (hp : ((pc : Int) + o).toNat = pc') (hc : if_icmp.holds cd x y = true) (w : oWin p e below Z h0 Q E (T.setTop (mkF m pc' ls st))) : oWin p e below Z h0 Q E (T.setTop (mkF m pc ls (.int y :: .int x :: st))) := by
  obtain ⟨hx, hZ, hlk, locs, X, N, H⟩ := B
  exact w.step fun t k => XS.icmpYes X.here hx rfl rfl hd rfl hc ho hp k
theorem W_icmpN (B : oB p l e R s m args below meth c Z h0 lo T cells slots ds) {cd : ClassFile.Cond} {x y : Int32} {o : Int} (hd : decode c.code pc = .ok (.if_icmp cd o, 3)) (hp : pc + 3 = pc') (hc : if_icmp.holds cd x y = false) (w : oWin p e below Z h0 Q E (T.setTop (mkF m pc' ls st))) : oWin p e below Z h0 Q E (T.setTop (mkF m pc ls (.int y :: .int x :: st))) := by
  subst hp
  obtain ⟨hx, hZ, hlk, locs, X, N, H⟩ := B
  exact w.step fun t k => XS.icmpNo X.here hx rfl hd rfl hc k
theorem W_ifY (B : oB p l e R s m args below meth c Z h0 lo T cells slots ds) {cd : ClassFile.Cond} {x : Int32} {o : Int} (hd : decode c.code pc = .ok (.ifCond cd o, 3)) (ho : 0 ≤ (pc : Int) + o) (hp : ((pc : Int) + o).toNat = pc') (hc : if_icmp.holds cd x 0 = true) (w : oWin p e below Z h0 Q E (T.setTop (mkF m pc' ls st))) : oWin p e below Z h0 Q E (T.setTop (mkF m pc ls (.int x :: st))) := by
  obtain ⟨hx, hZ, hlk, locs, X, N, H⟩ := B
  exact w.step fun t k => XS.ifYes X.here hx rfl rfl hd rfl ((if0 _ _).trans hc) ho hp k
theorem W_ifN (B : oB p l e R s m args below meth c Z h0 lo T cells slots ds) {cd : ClassFile.Cond} {x : Int32} {o : Int} (hd : decode c.code pc = .ok (.ifCond cd o, 3)) (hp : pc + 3 = pc') (hc : if_icmp.holds cd x 0 = false) (w : oWin p e below Z h0 Q E (T.setTop (mkF m pc' ls st))) : oWin p e below Z h0 Q E (T.setTop (mkF m pc ls (.int x :: st))) := by
  subst hp
  obtain ⟨hx, hZ, hlk, locs, X, N, H⟩ := B
  exact w.step fun t k => XS.ifNo X.here hx rfl hd rfl ((if0 _ _).trans hc) k
theorem W_icmp_eq (B : oB p l e R s m args below meth c Z h0 lo T cells slots ds) {x y : Int32} {o : Int} {pt : Nat} (hd : decode c.code pc = .ok (.if_icmp .eq o, 3)) (ho : 0 ≤ (pc : Int) + o) (ht : ((pc : Int) + o).toNat = pt) (hp : pc + 3 = pc') (w1 : x = y → oWin p e below Z h0 Q E (T.setTop (mkF m pt ls st))) (w2 : ¬ x = y → oWin p e below Z h0 Q E (T.setTop (mkF m pc' ls st))) : oWin p e below Z h0 Q E (T.setTop (mkF m pc ls (.int y :: .int x :: st))) := by
  by_cases h : x = y
  · exact W_icmpY B hd ho ht (teq h).1 (w1 h)
  · exact W_icmpN B hd hp (feq h).1 (w2 h)
theorem W_if_eq (B : oB p l e R s m args below meth c Z h0 lo T cells slots ds) {x : Int32} {o : Int} {pt : Nat} (hd : decode c.code pc = .ok (.ifCond .eq o, 3)) (ho : 0 ≤ (pc : Int) + o) (ht : ((pc : Int) + o).toNat = pt) (hp : pc + 3 = pc') (w1 : x = 0 → oWin p e below Z h0 Q E (T.setTop (mkF m pt ls st))) (w2 : ¬ x = 0 → oWin p e below Z h0 Q E (T.setTop (mkF m pc' ls st))) : oWin p e below Z h0 Q E (T.setTop (mkF m pc ls (.int x :: st))) := by
  by_cases h : x = 0
  · exact W_ifY B hd ho ht (teq h).1 (w1 h)
  · exact W_ifN B hd hp (feq h).1 (w2 h)
theorem W_lcmpY_eq (B : oB p l e R s m args below meth c Z h0 lo T cells slots ds) {x y : Int64} {o : Int} (hd : decode c.code pc = .ok (.lcmp, 1)) (hd' : decode c.code (pc + 1) = .ok (.ifCond .eq o, 3)) (ho : 0 ≤ ((pc + 1 : Nat) : Int) + o) (ht : (((pc + 1 : Nat) : Int) + o).toNat = pc') (hc : x = y) (w : oWin p e below Z h0 Q E (T.setTop (mkF m pc' ls st))) : oWin p e below Z h0 Q E (T.setTop (mkF m pc ls (.long y :: .long x :: st))) := by
  have w' := W_ifY (x := lcmpV x y) (st := st) B hd' ho ht (by have h : lcmpV x y = 0 := (lc_eq x y).mpr hc; exact (teq h).1) w
  obtain ⟨hx, hZ, hlk, locs, X, N, H⟩ := B
  exact w'.step fun t k => XS.lcmp X.here hx rfl hd rfl (by show Steps p.tables e below (T.setTop (mkF m (pc + 1) ls (.int (lcmpW x y) :: st))) t; rw [lcW]; exact k)
theorem W_lcmpN_eq (B : oB p l e R s m args below meth c Z h0 lo T cells slots ds) {x y : Int64} {o : Int} (hd : decode c.code pc = .ok (.lcmp, 1)) (hd' : decode c.code (pc + 1) = .ok (.ifCond .eq o, 3)) (hp : pc + 1 + 3 = pc') (hc : ¬ x = y) (w : oWin p e below Z h0 Q E (T.setTop (mkF m pc' ls st))) : oWin p e below Z h0 Q E (T.setTop (mkF m pc ls (.long y :: .long x :: st))) := by
  have w' := W_ifN (x := lcmpV x y) (st := st) B hd' hp (by have h : ¬ lcmpV x y = 0 := fun q => hc ((lc_eq x y).mp q); exact (feq h).1) w
  obtain ⟨hx, hZ, hlk, locs, X, N, H⟩ := B
  exact w'.step fun t k => XS.lcmp X.here hx rfl hd rfl (by show Steps p.tables e below (T.setTop (mkF m (pc + 1) ls (.int (lcmpW x y) :: st))) t; rw [lcW]; exact k)
theorem W_lcmp_eq (B : oB p l e R s m args below meth c Z h0 lo T cells slots ds) {x y : Int64} {o : Int} {pt : Nat} (hd : decode c.code pc = .ok (.lcmp, 1)) (hd' : decode c.code (pc + 1) = .ok (.ifCond .eq o, 3)) (ho : 0 ≤ ((pc + 1 : Nat) : Int) + o) (ht : (((pc + 1 : Nat) : Int) + o).toNat = pt) (hp : pc + 1 + 3 = pc') (w1 : x = y → oWin p e below Z h0 Q E (T.setTop (mkF m pt ls st))) (w2 : ¬ x = y → oWin p e below Z h0 Q E (T.setTop (mkF m pc' ls st))) : oWin p e below Z h0 Q E (T.setTop (mkF m pc ls (.long y :: .long x :: st))) := by
  by_cases h : x = y
  · exact W_lcmpY_eq B hd hd' ho ht h (w1 h)
  · exact W_lcmpN_eq B hd hd' hp h (w2 h)
theorem W_icmp_ne (B : oB p l e R s m args below meth c Z h0 lo T cells slots ds) {x y : Int32} {o : Int} {pt : Nat} (hd : decode c.code pc = .ok (.if_icmp .ne o, 3)) (ho : 0 ≤ (pc : Int) + o) (ht : ((pc : Int) + o).toNat = pt) (hp : pc + 3 = pc') (w1 : ¬ x = y → oWin p e below Z h0 Q E (T.setTop (mkF m pt ls st))) (w2 : x = y → oWin p e below Z h0 Q E (T.setTop (mkF m pc' ls st))) : oWin p e below Z h0 Q E (T.setTop (mkF m pc ls (.int y :: .int x :: st))) := by
  by_cases h : x = y
  · exact W_icmpN B hd hp (teq h).2 (w2 h)
  · exact W_icmpY B hd ho ht (feq h).2 (w1 h)
theorem W_if_ne (B : oB p l e R s m args below meth c Z h0 lo T cells slots ds) {x : Int32} {o : Int} {pt : Nat} (hd : decode c.code pc = .ok (.ifCond .ne o, 3)) (ho : 0 ≤ (pc : Int) + o) (ht : ((pc : Int) + o).toNat = pt) (hp : pc + 3 = pc') (w1 : ¬ x = 0 → oWin p e below Z h0 Q E (T.setTop (mkF m pt ls st))) (w2 : x = 0 → oWin p e below Z h0 Q E (T.setTop (mkF m pc' ls st))) : oWin p e below Z h0 Q E (T.setTop (mkF m pc ls (.int x :: st))) := by
  by_cases h : x = 0
  · exact W_ifN B hd hp (teq h).2 (w2 h)
  · exact W_ifY B hd ho ht (feq h).2 (w1 h)
theorem W_lcmpY_ne (B : oB p l e R s m args below meth c Z h0 lo T cells slots ds) {x y : Int64} {o : Int} (hd : decode c.code pc = .ok (.lcmp, 1)) (hd' : decode c.code (pc + 1) = .ok (.ifCond .ne o, 3)) (ho : 0 ≤ ((pc + 1 : Nat) : Int) + o) (ht : (((pc + 1 : Nat) : Int) + o).toNat = pc') (hc : ¬ x = y) (w : oWin p e below Z h0 Q E (T.setTop (mkF m pc' ls st))) : oWin p e below Z h0 Q E (T.setTop (mkF m pc ls (.long y :: .long x :: st))) := by
  have w' := W_ifY (x := lcmpV x y) (st := st) B hd' ho ht (by have h : ¬ lcmpV x y = 0 := fun q => hc ((lc_eq x y).mp q); exact (feq h).2) w
  obtain ⟨hx, hZ, hlk, locs, X, N, H⟩ := B
  exact w'.step fun t k => XS.lcmp X.here hx rfl hd rfl (by show Steps p.tables e below (T.setTop (mkF m (pc + 1) ls (.int (lcmpW x y) :: st))) t; rw [lcW]; exact k)
theorem W_lcmpN_ne (B : oB p l e R s m args below meth c Z h0 lo T cells slots ds) {x y : Int64} {o : Int} (hd : decode c.code pc = .ok (.lcmp, 1)) (hd' : decode c.code (pc + 1) = .ok (.ifCond .ne o, 3)) (hp : pc + 1 + 3 = pc') (hc : x = y) (w : oWin p e below Z h0 Q E (T.setTop (mkF m pc' ls st))) : oWin p e below Z h0 Q E (T.setTop (mkF m pc ls (.long y :: .long x :: st))) := by
  have w' := W_ifN (x := lcmpV x y) (st := st) B hd' hp (by have h : lcmpV x y = 0 := (lc_eq x y).mpr hc; exact (teq h).2) w
  obtain ⟨hx, hZ, hlk, locs, X, N, H⟩ := B
  exact w'.step fun t k => XS.lcmp X.here hx rfl hd rfl (by show Steps p.tables e below (T.setTop (mkF m (pc + 1) ls (.int (lcmpW x y) :: st))) t; rw [lcW]; exact k)
theorem W_lcmp_ne (B : oB p l e R s m args below meth c Z h0 lo T cells slots ds) {x y : Int64} {o : Int} {pt : Nat} (hd : decode c.code pc = .ok (.lcmp, 1)) (hd' : decode c.code (pc + 1) = .ok (.ifCond .ne o, 3)) (ho : 0 ≤ ((pc + 1 : Nat) : Int) + o) (ht : (((pc + 1 : Nat) : Int) + o).toNat = pt) (hp : pc + 1 + 3 = pc') (w1 : ¬ x = y → oWin p e below Z h0 Q E (T.setTop (mkF m pt ls st))) (w2 : x = y → oWin p e below Z h0 Q E (T.setTop (mkF m pc' ls st))) : oWin p e below Z h0 Q E (T.setTop (mkF m pc ls (.long y :: .long x :: st))) := by
  by_cases h : x = y
  · exact W_lcmpN_ne B hd hd' hp h (w2 h)
  · exact W_lcmpY_ne B hd hd' ho ht h (w1 h)
theorem W_icmp_lt (B : oB p l e R s m args below meth c Z h0 lo T cells slots ds) {x y : Int32} {o : Int} {pt : Nat} (hd : decode c.code pc = .ok (.if_icmp .lt o, 3)) (ho : 0 ≤ (pc : Int) + o) (ht : ((pc : Int) + o).toNat = pt) (hp : pc + 3 = pc') (w1 : x < y → oWin p e below Z h0 Q E (T.setTop (mkF m pt ls st))) (w2 : ¬ x < y → oWin p e below Z h0 Q E (T.setTop (mkF m pc' ls st))) : oWin p e below Z h0 Q E (T.setTop (mkF m pc ls (.int y :: .int x :: st))) := by
  by_cases h : x < y
  · exact W_icmpY B hd ho ht (tlt h).1 (w1 h)
  · exact W_icmpN B hd hp (flt h).1 (w2 h)
theorem W_if_lt (B : oB p l e R s m args below meth c Z h0 lo T cells slots ds) {x : Int32} {o : Int} {pt : Nat} (hd : decode c.code pc = .ok (.ifCond .lt o, 3)) (ho : 0 ≤ (pc : Int) + o) (ht : ((pc : Int) + o).toNat = pt) (hp : pc + 3 = pc') (w1 : x < 0 → oWin p e below Z h0 Q E (T.setTop (mkF m pt ls st))) (w2 : ¬ x < 0 → oWin p e below Z h0 Q E (T.setTop (mkF m pc' ls st))) : oWin p e below Z h0 Q E (T.setTop (mkF m pc ls (.int x :: st))) := by
  by_cases h : x < 0
  · exact W_ifY B hd ho ht (tlt h).1 (w1 h)
  · exact W_ifN B hd hp (flt h).1 (w2 h)
theorem W_lcmpY_lt (B : oB p l e R s m args below meth c Z h0 lo T cells slots ds) {x y : Int64} {o : Int} (hd : decode c.code pc = .ok (.lcmp, 1)) (hd' : decode c.code (pc + 1) = .ok (.ifCond .lt o, 3)) (ho : 0 ≤ ((pc + 1 : Nat) : Int) + o) (ht : (((pc + 1 : Nat) : Int) + o).toNat = pc') (hc : x < y) (w : oWin p e below Z h0 Q E (T.setTop (mkF m pc' ls st))) : oWin p e below Z h0 Q E (T.setTop (mkF m pc ls (.long y :: .long x :: st))) := by
  have w' := W_ifY (x := lcmpV x y) (st := st) B hd' ho ht (by have h : lcmpV x y < 0 := (lc_lt x y).mpr hc; exact (tlt h).1) w
  obtain ⟨hx, hZ, hlk, locs, X, N, H⟩ := B
  exact w'.step fun t k => XS.lcmp X.here hx rfl hd rfl (by show Steps p.tables e below (T.setTop (mkF m (pc + 1) ls (.int (lcmpW x y) :: st))) t; rw [lcW]; exact k)
theorem W_lcmpN_lt (B : oB p l e R s m args below meth c Z h0 lo T cells slots ds) {x y : Int64} {o : Int} (hd : decode c.code pc = .ok (.lcmp, 1)) (hd' : decode c.code (pc + 1) = .ok (.ifCond .lt o, 3)) (hp : pc + 1 + 3 = pc') (hc : ¬ x < y) (w : oWin p e below Z h0 Q E (T.setTop (mkF m pc' ls st))) : oWin p e below Z h0 Q E (T.setTop (mkF m pc ls (.long y :: .long x :: st))) := by
  have w' := W_ifN (x := lcmpV x y) (st := st) B hd' hp (by have h : ¬ lcmpV x y < 0 := fun q => hc ((lc_lt x y).mp q); exact (flt h).1) w
  obtain ⟨hx, hZ, hlk, locs, X, N, H⟩ := B
  exact w'.step fun t k => XS.lcmp X.here hx rfl hd rfl (by show Steps p.tables e below (T.setTop (mkF m (pc + 1) ls (.int (lcmpW x y) :: st))) t; rw [lcW]; exact k)
theorem W_lcmp_lt (B : oB p l e R s m args below meth c Z h0 lo T cells slots ds) {x y : Int64} {o : Int} {pt : Nat} (hd : decode c.code pc = .ok (.lcmp, 1)) (hd' : decode c.code (pc + 1) = .ok (.ifCond .lt o, 3)) (ho : 0 ≤ ((pc + 1 : Nat) : Int) + o) (ht : (((pc + 1 : Nat) : Int) + o).toNat = pt) (hp : pc + 1 + 3 = pc') (w1 : x < y → oWin p e below Z h0 Q E (T.setTop (mkF m pt ls st))) (w2 : ¬ x < y → oWin p e below Z h0 Q E (T.setTop (mkF m pc' ls st))) : oWin p e below Z h0 Q E (T.setTop (mkF m pc ls (.long y :: .long x :: st))) := by
  by_cases h : x < y
  · exact W_lcmpY_lt B hd hd' ho ht h (w1 h)
  · exact W_lcmpN_lt B hd hd' hp h (w2 h)
theorem W_icmp_ge (B : oB p l e R s m args below meth c Z h0 lo T cells slots ds) {x y : Int32} {o : Int} {pt : Nat} (hd : decode c.code pc = .ok (.if_icmp .ge o, 3)) (ho : 0 ≤ (pc : Int) + o) (ht : ((pc : Int) + o).toNat = pt) (hp : pc + 3 = pc') (w1 : ¬ x < y → oWin p e below Z h0 Q E (T.setTop (mkF m pt ls st))) (w2 : x < y → oWin p e below Z h0 Q E (T.setTop (mkF m pc' ls st))) : oWin p e below Z h0 Q E (T.setTop (mkF m pc ls (.int y :: .int x :: st))) := by
  by_cases h : x < y
  · exact W_icmpN B hd hp (tlt h).2.1 (w2 h)
  · exact W_icmpY B hd ho ht (flt h).2.1 (w1 h)
theorem W_if_ge (B : oB p l e R s m args below meth c Z h0 lo T cells slots ds) {x : Int32} {o : Int} {pt : Nat} (hd : decode c.code pc = .ok (.ifCond .ge o, 3)) (ho : 0 ≤ (pc : Int) + o) (ht : ((pc : Int) + o).toNat = pt) (hp : pc + 3 = pc') (w1 : ¬ x < 0 → oWin p e below Z h0 Q E (T.setTop (mkF m pt ls st))) (w2 : x < 0 → oWin p e below Z h0 Q E (T.setTop (mkF m pc' ls st))) : oWin p e below Z h0 Q E (T.setTop (mkF m pc ls (.int x :: st))) := by
  by_cases h : x < 0
  · exact W_ifN B hd hp (tlt h).2.1 (w2 h)
  · exact W_ifY B hd ho ht (flt h).2.1 (w1 h)
theorem W_lcmpY_ge (B : oB p l e R s m args below meth c Z h0 lo T cells slots ds) {x y : Int64} {o : Int} (hd : decode c.code pc = .ok (.lcmp, 1)) (hd' : decode c.code (pc + 1) = .ok (.ifCond .ge o, 3)) (ho : 0 ≤ ((pc + 1 : Nat) : Int) + o) (ht : (((pc + 1 : Nat) : Int) + o).toNat = pc') (hc : ¬ x < y) (w : oWin p e below Z h0 Q E (T.setTop (mkF m pc' ls st))) : oWin p e below Z h0 Q E (T.setTop (mkF m pc ls (.long y :: .long x :: st))) := by
  have w' := W_ifY (x := lcmpV x y) (st := st) B hd' ho ht (by have h : ¬ lcmpV x y < 0 := fun q => hc ((lc_lt x y).mp q); exact (flt h).2.1) w
  obtain ⟨hx, hZ, hlk, locs, X, N, H⟩ := B
  exact w'.step fun t k => XS.lcmp X.here hx rfl hd rfl (by show Steps p.tables e below (T.setTop (mkF m (pc + 1) ls (.int (lcmpW x y) :: st))) t; rw [lcW]; exact k)
theorem W_lcmpN_ge (B : oB p l e R s m args below meth c Z h0 lo T cells slots ds) {x y : Int64} {o : Int} (hd : decode c.code pc = .ok (.lcmp, 1)) (hd' : decode c.code (pc + 1) = .ok (.ifCond .ge o, 3)) (hp : pc + 1 + 3 = pc') (hc : x < y) (w : oWin p e below Z h0 Q E (T.setTop (mkF m pc' ls st))) : oWin p e below Z h0 Q E (T.setTop (mkF m pc ls (.long y :: .long x :: st))) := by
  have w' := W_ifN (x := lcmpV x y) (st := st) B hd' hp (by have h : lcmpV x y < 0 := (lc_lt x y).mpr hc; exact (tlt h).2.1) w
  obtain ⟨hx, hZ, hlk, locs, X, N, H⟩ := B
  exact w'.step fun t k => XS.lcmp X.here hx rfl hd rfl (by show Steps p.tables e below (T.setTop (mkF m (pc + 1) ls (.int (lcmpW x y) :: st))) t; rw [lcW]; exact k)
theorem W_lcmp_ge (B : oB p l e R s m args below meth c Z h0 lo T cells slots ds) {x y : Int64} {o : Int} {pt : Nat} (hd : decode c.code pc = .ok (.lcmp, 1)) (hd' : decode c.code (pc + 1) = .ok (.ifCond .ge o, 3)) (ho : 0 ≤ ((pc + 1 : Nat) : Int) + o) (ht : (((pc + 1 : Nat) : Int) + o).toNat = pt) (hp : pc + 1 + 3 = pc') (w1 : ¬ x < y → oWin p e below Z h0 Q E (T.setTop (mkF m pt ls st))) (w2 : x < y → oWin p e below Z h0 Q E (T.setTop (mkF m pc' ls st))) : oWin p e below Z h0 Q E (T.setTop (mkF m pc ls (.long y :: .long x :: st))) := by
  by_cases h : x < y
  · exact W_lcmpN_ge B hd hd' hp h (w2 h)
  · exact W_lcmpY_ge B hd hd' ho ht h (w1 h)
theorem W_icmp_gt (B : oB p l e R s m args below meth c Z h0 lo T cells slots ds) {x y : Int32} {o : Int} {pt : Nat} (hd : decode c.code pc = .ok (.if_icmp .gt o, 3)) (ho : 0 ≤ (pc : Int) + o) (ht : ((pc : Int) + o).toNat = pt) (hp : pc + 3 = pc') (w1 : y < x → oWin p e below Z h0 Q E (T.setTop (mkF m pt ls st))) (w2 : ¬ y < x → oWin p e below Z h0 Q E (T.setTop (mkF m pc' ls st))) : oWin p e below Z h0 Q E (T.setTop (mkF m pc ls (.int y :: .int x :: st))) := by
  by_cases h : y < x
  · exact W_icmpY B hd ho ht (tlt h).2.2.1 (w1 h)
  · exact W_icmpN B hd hp (flt h).2.2.1 (w2 h)
theorem W_if_gt (B : oB p l e R s m args below meth c Z h0 lo T cells slots ds) {x : Int32} {o : Int} {pt : Nat} (hd : decode c.code pc = .ok (.ifCond .gt o, 3)) (ho : 0 ≤ (pc : Int) + o) (ht : ((pc : Int) + o).toNat = pt) (hp : pc + 3 = pc') (w1 : 0 < x → oWin p e below Z h0 Q E (T.setTop (mkF m pt ls st))) (w2 : ¬ 0 < x → oWin p e below Z h0 Q E (T.setTop (mkF m pc' ls st))) : oWin p e below Z h0 Q E (T.setTop (mkF m pc ls (.int x :: st))) := by
  by_cases h : 0 < x
  · exact W_ifY B hd ho ht (tlt h).2.2.1 (w1 h)
  · exact W_ifN B hd hp (flt h).2.2.1 (w2 h)
theorem W_lcmpY_gt (B : oB p l e R s m args below meth c Z h0 lo T cells slots ds) {x y : Int64} {o : Int} (hd : decode c.code pc = .ok (.lcmp, 1)) (hd' : decode c.code (pc + 1) = .ok (.ifCond .gt o, 3)) (ho : 0 ≤ ((pc + 1 : Nat) : Int) + o) (ht : (((pc + 1 : Nat) : Int) + o).toNat = pc') (hc : y < x) (w : oWin p e below Z h0 Q E (T.setTop (mkF m pc' ls st))) : oWin p e below Z h0 Q E (T.setTop (mkF m pc ls (.long y :: .long x :: st))) := by
  have w' := W_ifY (x := lcmpV x y) (st := st) B hd' ho ht (by have h : 0 < lcmpV x y := (lc_gt x y).mpr hc; exact (tlt h).2.2.1) w
  obtain ⟨hx, hZ, hlk, locs, X, N, H⟩ := B
  exact w'.step fun t k => XS.lcmp X.here hx rfl hd rfl (by show Steps p.tables e below (T.setTop (mkF m (pc + 1) ls (.int (lcmpW x y) :: st))) t; rw [lcW]; exact k)
theorem W_lcmpN_gt (B : oB p l e R s m args below meth c Z h0 lo T cells slots ds) {x y : Int64} {o : Int} (hd : decode c.code pc = .ok (.lcmp, 1)) (hd' : decode c.code (pc + 1) = .ok (.ifCond .gt o, 3)) (hp : pc + 1 + 3 = pc') (hc : ¬ y < x) (w : oWin p e below Z h0 Q E (T.setTop (mkF m pc' ls st))) : oWin p e below Z h0 Q E (T.setTop (mkF m pc ls (.long y :: .long x :: st))) := by
  have w' := W_ifN (x := lcmpV x y) (st := st) B hd' hp (by have h : ¬ 0 < lcmpV x y := fun q => hc ((lc_gt x y).mp q); exact (flt h).2.2.1) w
  obtain ⟨hx, hZ, hlk, locs, X, N, H⟩ := B
  exact w'.step fun t k => XS.lcmp X.here hx rfl hd rfl (by show Steps p.tables e below (T.setTop (mkF m (pc + 1) ls (.int (lcmpW x y) :: st))) t; rw [lcW]; exact k)
theorem W_lcmp_gt (B : oB p l e R s m args below meth c Z h0 lo T cells slots ds) {x y : Int64} {o : Int} {pt : Nat} (hd : decode c.code pc = .ok (.lcmp, 1)) (hd' : decode c.code (pc + 1) = .ok (.ifCond .gt o, 3)) (ho : 0 ≤ ((pc + 1 : Nat) : Int) + o) (ht : (((pc + 1 : Nat) : Int) + o).toNat = pt) (hp : pc + 1 + 3 = pc') (w1 : y < x → oWin p e below Z h0 Q E (T.setTop (mkF m pt ls st))) (w2 : ¬ y < x → oWin p e below Z h0 Q E (T.setTop (mkF m pc' ls st))) : oWin p e below Z h0 Q E (T.setTop (mkF m pc ls (.long y :: .long x :: st))) := by
  by_cases h : y < x
  · exact W_lcmpY_gt B hd hd' ho ht h (w1 h)
  · exact W_lcmpN_gt B hd hd' hp h (w2 h)
theorem W_icmp_le (B : oB p l e R s m args below meth c Z h0 lo T cells slots ds) {x y : Int32} {o : Int} {pt : Nat} (hd : decode c.code pc = .ok (.if_icmp .le o, 3)) (ho : 0 ≤ (pc : Int) + o) (ht : ((pc : Int) + o).toNat = pt) (hp : pc + 3 = pc') (w1 : ¬ y < x → oWin p e below Z h0 Q E (T.setTop (mkF m pt ls st))) (w2 : y < x → oWin p e below Z h0 Q E (T.setTop (mkF m pc' ls st))) : oWin p e below Z h0 Q E (T.setTop (mkF m pc ls (.int y :: .int x :: st))) := by
  by_cases h : y < x
  · exact W_icmpN B hd hp (tlt h).2.2.2 (w2 h)
  · exact W_icmpY B hd ho ht (flt h).2.2.2 (w1 h)
theorem W_if_le (B : oB p l e R s m args below meth c Z h0 lo T cells slots ds) {x : Int32} {o : Int} {pt : Nat} (hd : decode c.code pc = .ok (.ifCond .le o, 3)) (ho : 0 ≤ (pc : Int) + o) (ht : ((pc : Int) + o).toNat = pt) (hp : pc + 3 = pc') (w1 : ¬ 0 < x → oWin p e below Z h0 Q E (T.setTop (mkF m pt ls st))) (w2 : 0 < x → oWin p e below Z h0 Q E (T.setTop (mkF m pc' ls st))) : oWin p e below Z h0 Q E (T.setTop (mkF m pc ls (.int x :: st))) := by
  by_cases h : 0 < x
  · exact W_ifN B hd hp (tlt h).2.2.2 (w2 h)
  · exact W_ifY B hd ho ht (flt h).2.2.2 (w1 h)
theorem W_lcmpY_le (B : oB p l e R s m args below meth c Z h0 lo T cells slots ds) {x y : Int64} {o : Int} (hd : decode c.code pc = .ok (.lcmp, 1)) (hd' : decode c.code (pc + 1) = .ok (.ifCond .le o, 3)) (ho : 0 ≤ ((pc + 1 : Nat) : Int) + o) (ht : (((pc + 1 : Nat) : Int) + o).toNat = pc') (hc : ¬ y < x) (w : oWin p e below Z h0 Q E (T.setTop (mkF m pc' ls st))) : oWin p e below Z h0 Q E (T.setTop (mkF m pc ls (.long y :: .long x :: st))) := by
  have w' := W_ifY (x := lcmpV x y) (st := st) B hd' ho ht (by have h : ¬ 0 < lcmpV x y := fun q => hc ((lc_gt x y).mp q); exact (flt h).2.2.2) w
  obtain ⟨hx, hZ, hlk, locs, X, N, H⟩ := B
  exact w'.step fun t k => XS.lcmp X.here hx rfl hd rfl (by show Steps p.tables e below (T.setTop (mkF m (pc + 1) ls (.int (lcmpW x y) :: st))) t; rw [lcW]; exact k)
theorem W_lcmpN_le (B : oB p l e R s m args below meth c Z h0 lo T cells slots ds) {x y : Int64} {o : Int} (hd : decode c.code pc = .ok (.lcmp, 1)) (hd' : decode c.code (pc + 1) = .ok (.ifCond .le o, 3)) (hp : pc + 1 + 3 = pc') (hc : y < x) (w : oWin p e below Z h0 Q E (T.setTop (mkF m pc' ls st))) : oWin p e below Z h0 Q E (T.setTop (mkF m pc ls (.long y :: .long x :: st))) := by
  have w' := W_ifN (x := lcmpV x y) (st := st) B hd' hp (by have h : 0 < lcmpV x y := (lc_gt x y).mpr hc; exact (tlt h).2.2.2) w
  obtain ⟨hx, hZ, hlk, locs, X, N, H⟩ := B
  exact w'.step fun t k => XS.lcmp X.here hx rfl hd rfl (by show Steps p.tables e below (T.setTop (mkF m (pc + 1) ls (.int (lcmpW x y) :: st))) t; rw [lcW]; exact k)
theorem W_lcmp_le (B : oB p l e R s m args below meth c Z h0 lo T cells slots ds) {x y : Int64} {o : Int} {pt : Nat} (hd : decode c.code pc = .ok (.lcmp, 1)) (hd' : decode c.code (pc + 1) = .ok (.ifCond .le o, 3)) (ho : 0 ≤ ((pc + 1 : Nat) : Int) + o) (ht : (((pc + 1 : Nat) : Int) + o).toNat = pt) (hp : pc + 1 + 3 = pc') (w1 : ¬ y < x → oWin p e below Z h0 Q E (T.setTop (mkF m pt ls st))) (w2 : y < x → oWin p e below Z h0 Q E (T.setTop (mkF m pc' ls st))) : oWin p e below Z h0 Q E (T.setTop (mkF m pc ls (.long y :: .long x :: st))) := by
  by_cases h : y < x
  · exact W_lcmpN_le B hd hd' hp h (w2 h)
  · exact W_lcmpY_le B hd hd' ho ht h (w1 h)
theorem W_ifnullY (B : oB p l e R s m args below meth c Z h0 lo T cells slots ds) {o : Int} (hd : decode c.code pc = .ok (.ifnull o, 3)) (ho : 0 ≤ (pc : Int) + o) (hp : ((pc : Int) + o).toNat = pc') (w : oWin p e below Z h0 Q E (T.setTop (mkF m pc' ls st))) : oWin p e below Z h0 Q E (T.setTop (mkF m pc ls (.null :: st))) := by
  obtain ⟨hx, hZ, hlk, locs, X, N, H⟩ := B
  exact w.step fun t k => XS.ifnullYes X.here hx rfl rfl hd rfl ho hp k
theorem W_ifnullN (B : oB p l e R s m args below meth c Z h0 lo T cells slots ds) {o : Int} {a : Addr} (hd : decode c.code pc = .ok (.ifnull o, 3)) (hp : pc + 3 = pc') (w : oWin p e below Z h0 Q E (T.setTop (mkF m pc' ls st))) : oWin p e below Z h0 Q E (T.setTop (mkF m pc ls (.ref a :: st))) := by
  subst hp
  obtain ⟨hx, hZ, hlk, locs, X, N, H⟩ := B
  exact w.step fun t k => XS.ifnullNo X.here hx rfl hd rfl k
theorem W_ifnonnullY (B : oB p l e R s m args below meth c Z h0 lo T cells slots ds) {o : Int} {a : Addr} (hd : decode c.code pc = .ok (.ifnonnull o, 3)) (ho : 0 ≤ (pc : Int) + o) (hp : ((pc : Int) + o).toNat = pc') (w : oWin p e below Z h0 Q E (T.setTop (mkF m pc' ls st))) : oWin p e below Z h0 Q E (T.setTop (mkF m pc ls (.ref a :: st))) := by
  obtain ⟨hx, hZ, hlk, locs, X, N, H⟩ := B
  exact w.step fun t k => XS.ifnonnullYes X.here hx rfl rfl hd rfl ho hp k
theorem W_ifnonnullN (B : oB p l e R s m args below meth c Z h0 lo T cells slots ds) {o : Int} (hd : decode c.code pc = .ok (.ifnonnull o, 3)) (hp : pc + 3 = pc') (w : oWin p e below Z h0 Q E (T.setTop (mkF m pc' ls st))) : oWin p e below Z h0 Q E (T.setTop (mkF m pc ls (.null :: st))) := by
  subst hp
  obtain ⟨hx, hZ, hlk, locs, X, N, H⟩ := B
  exact w.step fun t k => XS.ifnonnullNo X.here hx rfl hd rfl k
theorem W_acmp (B : oB p l e R s m args below meth c Z h0 lo T cells slots ds) {cd : ACond} {o : Int} {x y : Value} {same : Bool} (hd : decode c.code pc = .ok (.if_acmp cd o, 3)) (h1 : x.isRef = true) (h2 : y.isRef = true) (hq : decide (x = y) = same) (ho : 0 ≤ (pc : Int) + o) (hp : pc' = if acV cd same = true then ((pc : Int) + o).toNat else pc + 3) (w : oWin p e below Z h0 Q E (T.setTop (mkF m pc' ls st))) : oWin p e below Z h0 Q E (T.setTop (mkF m pc ls (y :: x :: st))) := by
  obtain ⟨hx, hZ, hlk, locs, X, N, H⟩ := B
  exact w.step fun t k => Jvm.RoadKit.acmp (g := mkF m pc ls (y :: x :: st)) X hx rfl h1 h2 rfl hd rfl hq ho hp k
theorem W_ldcInt (B : oB p l e R s m args below meth c Z h0 lo T cells slots ds) {own : String} {i : Nat} {v : Int32} (hown : s.vm.findClass own = some m.cls) (w : (Jvm.Cond.constant own i v).before a0 Z = true) (hd : decode c.code pc = .ok (.ldc i, 2)) (hp : pc + 2 = pc') (k : oWin p e below Z h0 Q E (T.setTop (mkF m pc' ls (.int v :: st)))) : oWin p e below Z h0 Q E (T.setTop (mkF m pc ls st)) := by
  subst hp
  obtain ⟨hx, hZ, hlk, locs, X, N, H⟩ := B
  exact k.step (X.ldcInt hx hown (mvT hZ w) (g := mkF m pc ls st) rfl hd)
theorem W_ldc2Long (B : oB p l e R s m args below meth c Z h0 lo T cells slots ds) {own : String} {i : Nat} {v : Int64} (hown : s.vm.findClass own = some m.cls) (w : (Jvm.Cond.constantLong own i v).before a0 Z = true) (hd : decode c.code pc = .ok (.ldc2_w i, 3)) (hp : pc + 3 = pc') (k : oWin p e below Z h0 Q E (T.setTop (mkF m pc' ls (.long v :: st)))) : oWin p e below Z h0 Q E (T.setTop (mkF m pc ls st)) := by
  subst hp
  obtain ⟨hx, hZ, hlk, locs, X, N, H⟩ := B
  exact k.step (X.ldc2Long hx hown (mvT hZ w) (g := mkF m pc ls st) rfl hd)
theorem W_getstatic (B : oB p l e R s m args below meth c Z h0 lo T cells slots ds) {own R0 O n d host : String} {i : Nat} {v : Value} (hown : s.vm.findClass own = some m.cls) (w : (Jvm.Cond.fieldLink own i R0 n d).before a0 Z = true ∨ (Jvm.Cond.fieldLinkNest own i R0 n d host).before a0 Z = true) (via : Via Z R0 O n d) (F : Sta Z h0 O n d v) (hd : decode c.code pc = .ok (.getstatic i, 3)) (hp : pc + 3 = pc')
    (k : ∀ T, oB p l e R s m args below meth c Z h0 lo T cells slots ds → oWin p e below Z h0 Q E (T.setTop (mkF m pc' ls (v :: st)))) : oWin p e below Z h0 Q E (T.setTop (mkF m pc ls st)) := by
  subst hp
  obtain ⟨hx, hZ, hlk, locs, X, N, H⟩ := B
  obtain ⟨T', X', e', stp⟩ := getS2 X hx hZ hown w via rfl (F.ext H.1.1) (g := mkF m pc ls st) rfl hd
  exact (k T' ⟨hx, hZ, hlk, locs, X', N, e' ▸ H⟩).step stp
theorem W_getfield (B : oB p l e R s m args below meth c Z h0 lo T cells slots ds) {own R0 O n d host : String} {i j q : Nat} {a : Addr} {C : String} {fs : List (oFK × Value)} {v : Value} (hown : s.vm.findClass own = some m.cls) (w : (Jvm.Cond.fieldLink own i R0 n d).before a0 Z = true ∨ (Jvm.Cond.fieldLinkNest own i R0 n d host).before a0 Z = true) (via : Via Z R0 O n d) (hd : decode c.code pc = .ok (.getfield i, 3)) (hp : pc + 3 = pc')
    (hi : ds[j]? = some (a, oO C fs)) (hf : fs[q]? = some ((O, n, d), v))
    (k : ∀ T, oB p l e R s m args below meth c Z h0 lo T cells slots ds → oWin p e below Z h0 Q E (T.setTop (mkF m pc' ls (v :: st)))) : oWin p e below Z h0 Q E (T.setTop (mkF m pc ls (.ref a :: st))) := by
  subst hp
  obtain ⟨hx, hZ, hlk, locs, X, N, H⟩ := B
  have F := (H.at hi).2.2.1 _ (List.mem_of_getElem? hf)
  obtain ⟨T', X', e', stp⟩ := getF X hx hZ hown w via rfl F (g := mkF m pc ls (.ref a :: st)) rfl rfl hd
  exact (k T' ⟨hx, hZ, hlk, locs, X', N, e' ▸ H⟩).step stp
theorem oIs.put {h h' : Heap} {a : Addr} {C : String} {fs : List (oFK × Value)} {q : Nat} {f : oFK} {old v : Value} (I : oIs Z h a (oO C fs)) (hf : fs[q]? = some (f, old)) (W : Wr h h' a (oSl Z f) v) : oIs Z h' a (oO C (fs.set q (f, v))) := by
  obtain ⟨E, F, P⟩ := I
  have hq : q < fs.length := (List.getElem?_eq_some_iff.mp hf).1
  refine ⟨E.wr W, fun g hg => ?_, ?_⟩
  · obtain ⟨j, hj⟩ := List.mem_iff_getElem?.mp hg
    rw [List.getElem?_set] at hj
    by_cases e : q = j
    · rw [if_pos e, if_pos hq] at hj
      cases hj
      exact Fld.same (Z := Z) (C := f.1) (n := f.2.1) (d := f.2.2) W (F _ (List.mem_of_getElem? hf))
    · rw [if_neg e] at hj
      refine (F g (List.mem_of_getElem? hj)).other W (Or.inr ?_)
      obtain ⟨lj, ej⟩ := List.getElem?_eq_some_iff.mp hj
      obtain ⟨lq, eq⟩ := List.getElem?_eq_some_iff.mp hf
      have P' := List.pairwise_iff_getElem.mp P
      rcases Nat.lt_or_gt_of_ne e with r | r
      · have := P' q j lq lj r
        rw [ej, eq] at this; exact fun z => this z.symm
      · have := P' j q lj lq r
        rw [ej, eq] at this; exact this
  · refine List.pairwise_iff_getElem.mpr fun i j li lj r => ?_
    rw [List.length_set] at li lj
    have P' := List.pairwise_iff_getElem.mp P i j li lj r
    have key : ∀ k (lk : k < fs.length) (lk' : k < (fs.set q (f, v)).length), ((fs.set q (f, v))[k]'lk').1 = (fs[k]).1 := fun k lk lk' => by
      rw [List.getElem_set]
      split
      · rename_i hk; subst hk; obtain ⟨_, eq⟩ := List.getElem?_eq_some_iff.mp hf; rw [eq]
      · rfl
    rw [key i li, key j lj]; exact P'
theorem W_putfield (B : oB p l e R s m args below meth c Z h0 lo T cells slots ds) {own R0 O n d host : String} {i j q kk : Nat} {a : Addr} {C : String} {fs : List (oFK × Value)} {old v : Value} {ty : FieldType} (hown : s.vm.findClass own = some m.cls) (w : (Jvm.Cond.fieldLink own i R0 n d).before a0 Z = true ∨ (Jvm.Cond.fieldLinkNest own i R0 n d host).before a0 Z = true) (via : Via Z R0 O n d) (hd : decode c.code pc = .ok (.putfield i, 3)) (hp : pc + 3 = pc')
    (L : (Jvm.Cond.lays C O n d).before a0 Z = true ∨ ((Jvm.Cond.laysFinal C O n d).before a0 Z = true ∧ own = O ∧ meth.name = "<init>")) (wi : (Jvm.Cond.instantiable C kk).before a0 Z = true) (hty : parseFieldDescriptor d = some ty) (hn : narrow ty v = v) (hft : fits ty v = true)
    (hi : ds[j]? = some (a, oO C fs)) (hf : fs[q]? = some ((O, n, d), old)) (hds : ds.set j (a, oO C (fs.set q ((O, n, d), v))) = ds')
    (k : ∀ T, oB p l e R s m args below meth c Z h0 lo T cells slots ds' → oWin p e below Z h0 Q E (T.setTop (mkF m pc' ls st))) : oWin p e below Z h0 Q E (T.setTop (mkF m pc ls (v :: .ref a :: st))) := by
  subst hp hds
  obtain ⟨hx, hZ, hlk, locs, X, N, H⟩ := B
  obtain ⟨ha, I⟩ := H.at hi
  obtain ⟨T', h', X', e', W, stp⟩ := putF X hx hZ hown w via rfl (I.2.1 _ (List.mem_of_getElem? hf)) I.1 L wi hty hn hft (g := mkF m pc ls (v :: .ref a :: st)) rfl rfl hd
  subst e'
  exact (k T' ⟨hx, hZ, hlk, _, X', Fr.snoc X' N ha, H.wr hi W (I.put hf W)⟩).step stp
def oLaid (Z : State) (a0 : Array Value) (C : String) (f : oFK × Value) : Prop := Laid Z a0 C f.1.1 f.1.2.1 f.1.2.2 ∧ ∃ ty, parseFieldDescriptor f.1.2.2 = some ty ∧ f.2 = defaultValue ty
theorem oAll_nil {P : oFK × Value → Prop} : ∀ f ∈ ([] : List (oFK × Value)), P f := fun _ h => nomatch h
theorem oAll_cons {P : oFK × Value → Prop} {f : oFK × Value} {fs : List (oFK × Value)} (h : P f) (h' : ∀ g ∈ fs, P g) : ∀ g ∈ f :: fs, P g := fun g hg => (List.mem_cons.mp hg).elim (fun e => e ▸ h) (h' g)
theorem W_new (B : oB p l e R s m args below meth c Z h0 lo T cells slots ds) {own C : String} {i n : Nat} {fs : List (oFK × Value)} (hown : s.vm.findClass own = some m.cls) (w : (Jvm.Cond.classLink own i C).before a0 Z = true) (wi : (Jvm.Cond.instantiable C n).before a0 Z = true) (wz : (Jvm.Cond.initialized C).before a0 Z = true) (hd : decode c.code pc = .ok (.new i, 3)) (hp : pc + 3 = pc')
    (hr : cells + 1 ≤ R.cells ∧ slots + n ≤ R.slots) {cells' slots' : Nat} (hc' : cells + 1 = cells') (hs' : slots + n = slots')
    (hfs : ∀ f ∈ fs, oLaid Z a0 C f) (hnd : (fs.map fun f => f.1.2.1).Nodup)
    (k : ∀ T a, oB p l e R s m args below meth c Z h0 lo T cells' slots' ((a, oO C fs) :: ds) → oWin p e below Z h0 Q E (T.setTop (mkF m pc' ls (.ref a :: st)))) : oWin p e below Z h0 Q E (T.setTop (mkF m pc ls st)) := by
  subst hp hc' hs'
  obtain ⟨hx, hZ, hlk, locs, X, N, H⟩ := B
  obtain ⟨T', h', X', e', E, A, D, -, stp⟩ := newO X hx hZ hown w wi wz rfl (g := mkF m pc ls st) rfl hd hr.1 hr.2
  subst e'
  refine (k T' T.heap.size ⟨hx, hZ, hlk, _, X', N, H.new E ⟨A, fun f hf => ?_, ?_⟩⟩).step stp
  · obtain ⟨L, ty, h1, h2⟩ := hfs f hf
    rw [h2]; exact D L h1
  · have P := List.pairwise_map.mp (List.nodup_iff_pairwise_ne.mp hnd)
    refine P.imp_of_mem fun {f g} hf hg ne => ?_
    obtain ⟨L, ty, h1, h2⟩ := hfs f hf
    obtain ⟨L', ty', h1', h2'⟩ := hfs g hg
    exact Jvm.RoadKit.slot_ne L L' ne h1 h1'
theorem W_newarray (B : oB p l e R s m args below meth c Z h0 lo T cells slots ds) {aty : ArrayType} {n : Int32} {cap : Nat} {vs : List Value} (w : (Jvm.Cond.arrayClass (newarray.typeOf aty)).before a0 Z = true) (hd : decode c.code pc = .ok (.newarray aty, 2)) (hp : pc + 2 = pc') (hn : ¬ n < 0) (hcap : n.toNatClampNeg ≤ cap)
    (hr : cap * 8 ≤ 536870912 ∧ cells + 1 ≤ R.cells ∧ slots + cap ≤ R.slots) {cells' slots' : Nat} (hc' : cells + 1 = cells') (hs' : slots + cap = slots') (hvs : List.replicate n.toNatClampNeg (defaultValue (newarray.typeOf aty)) = vs) {ty : FieldType} (hty : newarray.typeOf aty = ty)
    (k : ∀ T a, oB p l e R s m args below meth c Z h0 lo T cells' slots' ((a, oA ty vs) :: ds) → oWin p e below Z h0 Q E (T.setTop (mkF m pc' ls (.ref a :: st)))) : oWin p e below Z h0 Q E (T.setTop (mkF m pc ls (.int n :: st))) := by
  subst hp hc' hs' hvs hty
  obtain ⟨hx, hZ, hlk, locs, X, N, H⟩ := B
  obtain ⟨T', h', cA, X', e', E, A, EA, stp⟩ := newPE X hx hZ w rfl (g := mkF m pc ls (.int n :: st)) rfl hd rfl hn hcap hr.1 hr.2.1 hr.2.2 rfl
  subst e'
  exact (k T' T.heap.size ⟨hx, hZ, hlk, _, X', N, H.new E ⟨_, A, by simp [newA], (fun C hC => by cases aty <;> cases hC), EA, fun v hv => by rw [(List.mem_replicate.mp hv).2]; cases aty <;> rfl⟩⟩).step stp
theorem W_anewarray (B : oB p l e R s m args below meth c Z h0 lo T cells slots ds) {own C : String} {i : Nat} {n : Int32} {cap : Nat} {vs : List Value} (hown : s.vm.findClass own = some m.cls) (w : (Jvm.Cond.classLink own i C).before a0 Z = true) (w2 : (Jvm.Cond.arrayOver (.object C)).before a0 Z = true) (hd : decode c.code pc = .ok (.anewarray i, 3)) (hp : pc + 3 = pc') (hn : ¬ n < 0) (hcap : n.toNatClampNeg ≤ cap)
    (hr : cap * 8 ≤ 536870912 ∧ cells + 1 ≤ R.cells ∧ slots + cap ≤ R.slots) {cells' slots' : Nat} (hc' : cells + 1 = cells') (hs' : slots + cap = slots') (hvs : List.replicate n.toNatClampNeg Value.null = vs)
    (k : ∀ T a, oB p l e R s m args below meth c Z h0 lo T cells' slots' ((a, oA (.object C) vs) :: ds) → oWin p e below Z h0 Q E (T.setTop (mkF m pc' ls (.ref a :: st)))) : oWin p e below Z h0 Q E (T.setTop (mkF m pc ls (.int n :: st))) := by
  subst hp hc' hs' hvs
  obtain ⟨hx, hZ, hlk, locs, X, N, H⟩ := B
  obtain ⟨T', h', cA, X', e', E, A, EA, O, stp⟩ := newRE X hx hZ hown w w2 rfl (g := mkF m pc ls (.int n :: st)) rfl hd rfl hn hcap hr.1 hr.2.1 hr.2.2 rfl
  subst e'
  exact (k T' T.heap.size ⟨hx, hZ, hlk, _, X', N, H.new E ⟨_, A, by simp [newA, defaultValue], (fun C' hC => by cases hC; exact O), EA, fun v hv => by rw [(List.mem_replicate.mp hv).2]; rfl⟩⟩).step stp
theorem W_arraylength (B : oB p l e R s m args below meth c Z h0 lo T cells slots ds) {j : Nat} {a : Addr} {ty : FieldType} {vs : List Value} {z : Int32} (hd : decode c.code pc = .ok (.arraylength, 1)) (hp : pc + 1 = pc') (hi : ds[j]? = some (a, oA ty vs)) (hz : vs.length.toInt32 = z) (w : oWin p e below Z h0 Q E (T.setTop (mkF m pc' ls (.int z :: st)))) : oWin p e below Z h0 Q E (T.setTop (mkF m pc ls (.ref a :: st))) := by
  subst hp hz
  obtain ⟨hx, hZ, hlk, locs, X, N, H⟩ := B
  obtain ⟨-, c', A, e, -⟩ := H.at hi
  have e2 : c'.slots.size = vs.length := by rw [e]; simp
  refine w.step fun t k => X.arraylength hx A.1 (State.isArrayOf_alike hZ.alike A.2.1) (g := mkF m pc ls (.ref a :: st)) rfl rfl hd t ?_
  rw [e2]; exact k
theorem oIn {vs : List Value} {j : Int32} {v : Value} {c' : Cell} (e : c'.slots = vs.toArray) (hj : ¬ j < 0) (hv : vs[j.toNatClampNeg]? = some v) : ¬ (j < 0 ∨ c'.slots.size ≤ j.toNatClampNeg) ∧ c'.slots[j.toNatClampNeg]? = some v := by
  have h1 : j.toNatClampNeg < vs.length := (List.getElem?_eq_some_iff.mp hv).1
  refine ⟨fun q => ?_, by rw [e]; simpa using hv⟩
  rcases q with q | q
  · exact hj q
  · rw [e] at q; simp at q; omega
theorem oIs.store {h h' : Heap} {a : Addr} {ty : FieldType} {vs : List Value} {i : Nat} {v : Value} (I : oIs Z h a (oA ty vs)) (W : Wr h h' a i v) (hv : fits ty v = true) : oIs Z h' a (oA ty (vs.set i v)) := by
  obtain ⟨c', A, e, O, E, F⟩ := I
  refine ⟨_, A.same W, ?_, O, E.wr W, fun w hw => ?_⟩
  · show c'.slots.setIfInBounds i v = _
    rw [e]; simp
  · rcases List.mem_or_eq_of_mem_set hw with q | q
    · exact F w q
    · rw [q]; exact hv
theorem W_clone (B : oB p l e R s m args below meth c Z h0 lo T cells slots ds) {own ad : String} {i j : Nat} {a : Addr} {ty : FieldType} {vs : List Value} {cap W : Nat} (hown : s.vm.findClass own = some m.cls) (w1 : (Jvm.Cond.methodLink own i ⟨ad, "clone", "()Ljava/lang/Object;"⟩).before a0 Z = true) (w2 : (Jvm.Cond.sameMethod ad "java/lang/Object" "clone" "()Ljava/lang/Object;").before a0 Z = true) (w3 : (Jvm.Cond.native ⟨"java/lang/Object", "clone", "()Ljava/lang/Object;"⟩).before a0 Z = true)
    (w4 : (Jvm.Cond.instanceMethod ⟨"java/lang/Object", "clone", "()Ljava/lang/Object;"⟩).before a0 Z = true) (w5 : (Jvm.Cond.selects ad ⟨ad, "clone", "()Ljava/lang/Object;"⟩ ⟨"java/lang/Object", "clone", "()Ljava/lang/Object;"⟩).before a0 Z = true) (w6 : (Jvm.Cond.castable ad "java/lang/Cloneable").before a0 Z = true)
    (had : "[" ++ ty.toString = ad) (hi : ds[j]? = some (a, oA ty vs)) (hd : decode c.code pc = .ok (.invokevirtual i, 3)) (hp : pc + 3 = pc') (hsz : ls.size = c.maxLocals) (hW : (st.map fun v => v.category).sum ≤ W) (hcap : vs.length ≤ cap) (hr : 1 ≤ R.frames ∧ W + 14 ≤ R.locals ∧ cells + 1 ≤ R.cells ∧ slots + cap ≤ R.slots) {cells' slots' : Nat} (hc' : cells + 1 = cells') (hs' : slots + cap = slots')
    (k : ∀ T b, oB p l e R s m args below meth c Z h0 lo T cells' slots' ((b, oA ty vs) :: ds) → oWin p e below Z h0 Q E (T.setTop (mkF m pc' ls (.ref b :: st)))) : oWin p e below Z h0 Q E (T.setTop (mkF m pc ls (.ref a :: st))) := by
  subst hp hc' hs' had
  obtain ⟨hx, hZ, hlk, locs, X, N, H⟩ := B
  obtain ⟨-, c', A, e1, O, E, F⟩ := H.at hi
  have FC : FitC Z c' := fitC_of A fun i hi v hv => F v (by rw [e1] at hv; simpa using List.mem_of_getElem? (l := vs) (by simpa using hv))
  obtain ⟨T', h', X', e', ex, A', E', stp⟩ := cloneA X hx hZ hown w1 w2 w3 w4 w5 w6 rfl A E FC (g := mkF m pc ls (.ref a :: st)) rfl hsz rfl hd hr.1 (W := W) (cap := cap) (by simpa using hW) hr.2.1 (by rw [e1]; simpa using hcap) hr.2.2.1 hr.2.2.2
  subst e'
  exact (k T' T.heap.size ⟨hx, hZ, hlk, _, X', N, H.new ex ⟨_, A', e1, O, E', F⟩⟩).step stp
theorem W_castArr (B : oB p l e R s m args below meth c Z h0 lo T cells slots ds) {own ad : String} {i j : Nat} {a : Addr} {ty : FieldType} {vs : List Value} (hown : s.vm.findClass own = some m.cls) (w : (Jvm.Cond.classLink own i ad).before a0 Z = true) (had : "[" ++ ty.toString = ad) (hi : ds[j]? = some (a, oA ty vs)) (hd : decode c.code pc = .ok (.checkcast i, 3)) (hp : pc + 3 = pc')
    (k : ∀ T, oB p l e R s m args below meth c Z h0 lo T cells slots ds → oWin p e below Z h0 Q E (T.setTop (mkF m pc' ls (.ref a :: st)))) : oWin p e below Z h0 Q E (T.setTop (mkF m pc ls (.ref a :: st))) := by
  subst hp had
  obtain ⟨hx, hZ, hlk, locs, X, N, H⟩ := B
  obtain ⟨-, c', A, e1, O, E, F⟩ := H.at hi
  obtain ⟨T', X', e', stp⟩ := castY X hx hZ hown w rfl (Ins.self E) (g := mkF m pc ls (.ref a :: st)) rfl rfl hd
  exact (k T' ⟨hx, hZ, hlk, locs, X', N, e' ▸ H⟩).step stp
theorem W_iaload (B : oB p l e R s m args below meth c Z h0 lo T cells slots ds) {i : Nat} {a : Addr} {vs : List Value} {j : Int32} {v : Value} (hd : decode c.code pc = .ok (.iaload, 1)) (hp : pc + 1 = pc') (hi : ds[i]? = some (a, oA .int vs)) (hj : ¬ j < 0) (hv : vs[j.toNatClampNeg]? = some v) (w : oWin p e below Z h0 Q E (T.setTop (mkF m pc' ls (v :: st)))) : oWin p e below Z h0 Q E (T.setTop (mkF m pc ls (.int j :: .ref a :: st))) := by
  subst hp
  obtain ⟨hx, hZ, hlk, locs, X, N, H⟩ := B
  obtain ⟨-, c', A, e, -⟩ := H.at hi
  obtain ⟨q1, q2⟩ := oIn e hj hv
  exact w.step fun t k => X.iaload hx A.1 (State.isArrayOf_alike hZ.alike A.2.1) A.2.2 q1 q2 (g := mkF m pc ls (.int j :: .ref a :: st)) rfl rfl hd t k
theorem W_laload (B : oB p l e R s m args below meth c Z h0 lo T cells slots ds) {i : Nat} {a : Addr} {vs : List Value} {j : Int32} {v : Value} (hd : decode c.code pc = .ok (.laload, 1)) (hp : pc + 1 = pc') (hi : ds[i]? = some (a, oA .long vs)) (hj : ¬ j < 0) (hv : vs[j.toNatClampNeg]? = some v) (w : oWin p e below Z h0 Q E (T.setTop (mkF m pc' ls (v :: st)))) : oWin p e below Z h0 Q E (T.setTop (mkF m pc ls (.int j :: .ref a :: st))) := by
  subst hp
  obtain ⟨hx, hZ, hlk, locs, X, N, H⟩ := B
  obtain ⟨-, c', A, e, -⟩ := H.at hi
  obtain ⟨q1, q2⟩ := oIn e hj hv
  exact w.step fun t k => X.laload hx A.1 (State.isArrayOf_alike hZ.alike A.2.1) A.2.2 q1 q2 (g := mkF m pc ls (.int j :: .ref a :: st)) rfl rfl hd t k
theorem W_baload (B : oB p l e R s m args below meth c Z h0 lo T cells slots ds) {i : Nat} {a : Addr} {vs : List Value} {j : Int32} {v : Value} (hd : decode c.code pc = .ok (.baload, 1)) (hp : pc + 1 = pc') (hi : ds[i]? = some (a, oA .byte vs)) (hj : ¬ j < 0) (hv : vs[j.toNatClampNeg]? = some v) (w : oWin p e below Z h0 Q E (T.setTop (mkF m pc' ls (v :: st)))) : oWin p e below Z h0 Q E (T.setTop (mkF m pc ls (.int j :: .ref a :: st))) := by
  subst hp
  obtain ⟨hx, hZ, hlk, locs, X, N, H⟩ := B
  obtain ⟨-, c', A, e, -⟩ := H.at hi
  obtain ⟨q1, q2⟩ := oIn e hj hv
  exact w.step fun t k => X.baloadBytes hx A.1 (State.isArrayOf_alike hZ.alike A.2.1) A.2.2 q1 q2 (g := mkF m pc ls (.int j :: .ref a :: st)) rfl rfl hd t k
theorem W_caload (B : oB p l e R s m args below meth c Z h0 lo T cells slots ds) {i : Nat} {a : Addr} {vs : List Value} {j : Int32} {v : Value} (hd : decode c.code pc = .ok (.caload, 1)) (hp : pc + 1 = pc') (hi : ds[i]? = some (a, oA .char vs)) (hj : ¬ j < 0) (hv : vs[j.toNatClampNeg]? = some v) (w : oWin p e below Z h0 Q E (T.setTop (mkF m pc' ls (v :: st)))) : oWin p e below Z h0 Q E (T.setTop (mkF m pc ls (.int j :: .ref a :: st))) := by
  subst hp
  obtain ⟨hx, hZ, hlk, locs, X, N, H⟩ := B
  obtain ⟨-, c', A, e, -⟩ := H.at hi
  obtain ⟨q1, q2⟩ := oIn e hj hv
  exact w.step fun t k => X.caload hx A.1 (State.isArrayOf_alike hZ.alike A.2.1) A.2.2 q1 q2 (g := mkF m pc ls (.int j :: .ref a :: st)) rfl rfl hd t k
theorem W_aaload (B : oB p l e R s m args below meth c Z h0 lo T cells slots ds) {i : Nat} {a : Addr} {ty : FieldType} {vs : List Value} {j : Int32} {v : Value} (hd : decode c.code pc = .ok (.aaload, 1)) (hp : pc + 1 = pc') (hi : ds[i]? = some (a, oA ty vs)) (hty : ty.isReference = true) (hj : ¬ j < 0) (hv : vs[j.toNatClampNeg]? = some v) (w : oWin p e below Z h0 Q E (T.setTop (mkF m pc' ls (v :: st)))) : oWin p e below Z h0 Q E (T.setTop (mkF m pc ls (.int j :: .ref a :: st))) := by
  subst hp
  obtain ⟨hx, hZ, hlk, locs, X, N, H⟩ := B
  obtain ⟨-, c', A, e, -⟩ := H.at hi
  obtain ⟨q1, q2⟩ := oIn e hj hv
  exact w.step fun t k => X.aaload hx A.1 (State.isArrayOf_alike hZ.alike A.2.1) hty A.2.2 q1 q2 (g := mkF m pc ls (.int j :: .ref a :: st)) rfl rfl hd t k
theorem W_iastore (B : oB p l e R s m args below meth c Z h0 lo T cells slots ds) {i : Nat} {a : Addr} {vs : List Value} {j : Int32} {x : Int32} (hd : decode c.code pc = .ok (.iastore, 1)) (hp : pc + 1 = pc') (hi : ds[i]? = some (a, oA .int vs)) (hj : ¬ j < 0) (hv : j.toNatClampNeg < vs.length) (hds : ds.set i (a, oA .int (vs.set j.toNatClampNeg (.int x))) = ds') (k : ∀ T, oB p l e R s m args below meth c Z h0 lo T cells slots ds' → oWin p e below Z h0 Q E (T.setTop (mkF m pc' ls st))) : oWin p e below Z h0 Q E (T.setTop (mkF m pc ls (.int x :: .int j :: .ref a :: st))) := by
  subst hp hds
  obtain ⟨hx, hZ, hlk, locs, X, N, H⟩ := B
  obtain ⟨ha, I⟩ := H.at hi
  have I' := I
  obtain ⟨c', A, e, -⟩ := I'
  obtain ⟨q1, -⟩ := oIn e hj (List.getElem?_eq_getElem hv)
  obtain ⟨T', h', X', e', W, stp⟩ := stI X hx hZ rfl A q1 (g := mkF m pc ls (.int x :: .int j :: .ref a :: st)) rfl rfl hd
  subst e'
  exact (k T' ⟨hx, hZ, hlk, _, X', Fr.snoc X' N ha, H.wr hi W (I.store W rfl)⟩).step stp
theorem W_lastore (B : oB p l e R s m args below meth c Z h0 lo T cells slots ds) {i : Nat} {a : Addr} {vs : List Value} {j : Int32} {x : Int64} (hd : decode c.code pc = .ok (.lastore, 1)) (hp : pc + 1 = pc') (hi : ds[i]? = some (a, oA .long vs)) (hj : ¬ j < 0) (hv : j.toNatClampNeg < vs.length) (hds : ds.set i (a, oA .long (vs.set j.toNatClampNeg (.long x))) = ds') (k : ∀ T, oB p l e R s m args below meth c Z h0 lo T cells slots ds' → oWin p e below Z h0 Q E (T.setTop (mkF m pc' ls st))) : oWin p e below Z h0 Q E (T.setTop (mkF m pc ls (.long x :: .int j :: .ref a :: st))) := by
  subst hp hds
  obtain ⟨hx, hZ, hlk, locs, X, N, H⟩ := B
  obtain ⟨ha, I⟩ := H.at hi
  have I' := I
  obtain ⟨c', A, e, -⟩ := I'
  obtain ⟨q1, -⟩ := oIn e hj (List.getElem?_eq_getElem hv)
  obtain ⟨T', h', X', e', W, stp⟩ := stJ X hx hZ rfl A q1 (g := mkF m pc ls (.long x :: .int j :: .ref a :: st)) rfl rfl hd
  subst e'
  exact (k T' ⟨hx, hZ, hlk, _, X', Fr.snoc X' N ha, H.wr hi W (I.store W rfl)⟩).step stp
theorem W_bastore (B : oB p l e R s m args below meth c Z h0 lo T cells slots ds) {i : Nat} {a : Addr} {vs : List Value} {j : Int32} {x : Int32} (hd : decode c.code pc = .ok (.bastore, 1)) (hp : pc + 1 = pc') (hi : ds[i]? = some (a, oA .byte vs)) (hj : ¬ j < 0) (hv : j.toNatClampNeg < vs.length) (hds : ds.set i (a, oA .byte (vs.set j.toNatClampNeg (.int (nar .byte x)))) = ds') (k : ∀ T, oB p l e R s m args below meth c Z h0 lo T cells slots ds' → oWin p e below Z h0 Q E (T.setTop (mkF m pc' ls st))) : oWin p e below Z h0 Q E (T.setTop (mkF m pc ls (.int x :: .int j :: .ref a :: st))) := by
  subst hp hds
  obtain ⟨hx, hZ, hlk, locs, X, N, H⟩ := B
  obtain ⟨ha, I⟩ := H.at hi
  have I' := I
  obtain ⟨c', A, e, -⟩ := I'
  obtain ⟨q1, -⟩ := oIn e hj (List.getElem?_eq_getElem hv)
  obtain ⟨T', h', X', e', W, stp⟩ := stB X hx hZ rfl A q1 (g := mkF m pc ls (.int x :: .int j :: .ref a :: st)) rfl rfl hd
  subst e'
  exact (k T' ⟨hx, hZ, hlk, _, X', Fr.snoc X' N ha, H.wr hi W (I.store W (fits_nar_byte x))⟩).step stp
theorem W_castore (B : oB p l e R s m args below meth c Z h0 lo T cells slots ds) {i : Nat} {a : Addr} {vs : List Value} {j : Int32} {x : Int32} (hd : decode c.code pc = .ok (.castore, 1)) (hp : pc + 1 = pc') (hi : ds[i]? = some (a, oA .char vs)) (hj : ¬ j < 0) (hv : j.toNatClampNeg < vs.length) (hds : ds.set i (a, oA .char (vs.set j.toNatClampNeg (.int (nar .char x)))) = ds') (k : ∀ T, oB p l e R s m args below meth c Z h0 lo T cells slots ds' → oWin p e below Z h0 Q E (T.setTop (mkF m pc' ls st))) : oWin p e below Z h0 Q E (T.setTop (mkF m pc ls (.int x :: .int j :: .ref a :: st))) := by
  subst hp hds
  obtain ⟨hx, hZ, hlk, locs, X, N, H⟩ := B
  obtain ⟨ha, I⟩ := H.at hi
  have I' := I
  obtain ⟨c', A, e, -⟩ := I'
  obtain ⟨q1, -⟩ := oIn e hj (List.getElem?_eq_getElem hv)
  obtain ⟨T', h', X', e', W, stp⟩ := stC X hx hZ rfl A q1 (g := mkF m pc ls (.int x :: .int j :: .ref a :: st)) rfl rfl hd
  subst e'
  exact (k T' ⟨hx, hZ, hlk, _, X', Fr.snoc X' N ha, H.wr hi W (I.store W (fits_nar_char x))⟩).step stp
theorem W_aastore (B : oB p l e R s m args below meth c Z h0 lo T cells slots ds) {i i2 : Nat} {a b : Addr} {C C2 : String} {fs : List (oFK × Value)} {vs : List Value} {j : Int32} (hd : decode c.code pc = .ok (.aastore, 1)) (hp : pc + 1 = pc') (hi : ds[i]? = some (a, oA (.object C) vs)) (hj : ¬ j < 0) (hv : j.toNatClampNeg < vs.length) (hb : ds[i2]? = some (b, oO C2 fs)) (hins : C2 = C ∨ (Jvm.Cond.castable C2 C).before a0 Z = true) (hds : ds.set i (a, oA (.object C) (vs.set j.toNatClampNeg (.ref b))) = ds') (k : ∀ T, oB p l e R s m args below meth c Z h0 lo T cells slots ds' → oWin p e below Z h0 Q E (T.setTop (mkF m pc' ls st))) : oWin p e below Z h0 Q E (T.setTop (mkF m pc ls (.ref b :: .int j :: .ref a :: st))) := by
  subst hp hds
  obtain ⟨hx, hZ, hlk, locs, X, N, H⟩ := B
  obtain ⟨ha, I⟩ := H.at hi
  have I' := I
  obtain ⟨c', A, e, O, -⟩ := I'
  obtain ⟨q1, -⟩ := oIn e hj (List.getElem?_eq_getElem hv)
  have E2 := (H.at hb).2.1
  have J : Ins Z T.heap b C true := by
    rcases hins with q | q
    · subst q; exact Ins.self E2
    · exact Ins.of_exa E2 q
  obtain ⟨T', h', X', e', W, stp⟩ := stR X hx hZ rfl A q1 rfl (Sto.of A (O C rfl) J) (g := mkF m pc ls (.ref b :: .int j :: .ref a :: st)) rfl rfl hd
  subst e'
  exact (k T' ⟨hx, hZ, hlk, _, X', Fr.snoc X' N ha, H.wr hi W (I.store W rfl)⟩).step stp
theorem W_initO (B : oB p l e R s m args below meth c Z h0 lo T cells slots ds) {own : String} {i : Nat} {a : Addr} {W : Nat} (hown : s.vm.findClass own = some m.cls) (w1 : (Jvm.Cond.methodLink own i Lib.objectInit).before a0 Z = true) (w2 : (Jvm.Cond.instanceMethod Lib.objectInit).before a0 Z = true) (w3 : (Jvm.Cond.code Lib.objectInit ⟨#[0xb1]⟩ 1 none).before a0 Z = true) (hd : decode c.code pc = .ok (.invokespecial i, 3)) (hp : pc + 3 = pc') (hsz : ls.size = c.maxLocals) (hW : (st.map fun v => v.category).sum ≤ W) (hr : 1 ≤ R.frames ∧ W + 12 ≤ R.locals)
    (k : ∀ T, oB p l e R s m args below meth c Z h0 lo T cells slots ds → oWin p e below Z h0 Q E (T.setTop (mkF m pc' ls st))) : oWin p e below Z h0 Q E (T.setTop (mkF m pc ls (.ref a :: st))) := by
  subst hp
  obtain ⟨hx, hZ, hlk, locs, X, N, H⟩ := B
  obtain ⟨T', X', e', stp⟩ := initO X hx hZ hown w1 w2 w3 rfl (g := mkF m pc ls (.ref a :: st)) rfl hsz rfl hd hr.1 (W := W) (by simpa using hW) hr.2
  exact (k T' ⟨hx, hZ, hlk, locs, X', N, e' ▸ H⟩).step stp
theorem W_callS (B : oB p l e R s m args below meth c Z h0 lo T cells slots ds) {own : String} {i : Nat} {y : MethodName} {bytes : ByteArray} {maxL : Nat} {ret : Option FieldType} {rm : Room} {Q' : Option Value → oDs → Prop} {argsL rest : List Value} {W : Nat} (hown : s.vm.findClass own = some m.cls) (w1 : (Jvm.Cond.methodLink own i y).before a0 Z = true) (w2 : (Jvm.Cond.static y).before a0 Z = true) (w3 : (Jvm.Cond.initialized y.cls).before a0 Z = true) (w4 : (Jvm.Cond.code y bytes maxL ret).before a0 Z = true) (hy : y.cls ≠ "java/lang/invoke/MethodHandle" ∧ y.cls ≠ "java/lang/invoke/VarHandle")
    (hM : oMet l Z h0 lo y bytes maxL ret [] rm argsL.toArray ds Q') (hlen : ∀ sig, parseMethodDescriptor y.desc = some sig → argsL.length = sig.parameters.length) (hd : decode c.code pc = .ok (.invokestatic i, 3)) (hp : pc + 3 = pc') (hst : st = argsL.reverse ++ rest) (hsz : ls.size = c.maxLocals) (hW : (rest.map fun v => v.category).sum ≤ W)
    (hr : rm.frames + 1 ≤ R.frames ∧ W + (maxL + 11) + rm.locals ≤ R.locals ∧ cells + rm.cells ≤ R.cells ∧ slots + rm.slots ≤ R.slots) {cells' slots' : Nat} (hc' : cells + rm.cells = cells') (hs' : slots + rm.slots = slots')
    (k : ∀ T v ds', Q' v ds' → oB p l e R s m args below meth c Z h0 lo T cells' slots' ds' → oWin p e below Z h0 Q E (T.setTop (mkF m pc' ls (v.toList ++ rest)))) : oWin p e below Z h0 Q E (T.setTop (mkF m pc ls st)) := by
  subst hp hst hc' hs'
  obtain ⟨hx, hZ, hlk, locs, X, N, H⟩ := B
  obtain ⟨v, vm1, ⟨T', L', k', n'⟩, -, X', ⟨Lc, ⟨N', ds', H', hQ⟩, e1, e2, e3⟩, stp⟩ := Jvm.LawKit.callS X hx (y := y) hown (mvT hZ w1) (mvT hZ w2) (mvT hZ w3) (mvT hZ w4) hy (backOf (W := W) (Q := fun v h L => Fr h0.size L ∧ ∃ ds', oHP Z h0 lo h ds' ∧ Q' v ds') (hM _ H) hZ w4 w3 hr.1 hr.2.1) (g := mkF m pc ls (argsL.reverse ++ rest)) rfl hsz hlen rfl (by simpa using hW) hd (fun _ _ => ⟨rfl, rfl, hr.2.2.1, hr.2.2.2⟩)
  dsimp only [Pt.U, Pt.locs, Pt.cells, Pt.slots] at X' e1 e2 e3 stp H'
  subst e1 e2 e3
  exact (k T' v ds' hQ ⟨hx, hZ, hlk, _, X', N.app N', H'⟩).step stp
theorem W_init (B : oB p l e R s m args below meth c Z h0 lo T cells slots ds) {own : String} {i : Nat} {y : MethodName} {bytes : ByteArray} {maxL : Nat} {rm : Room} {Q' : Option Value → oDs → Prop} {a : Addr} {argsL rest : List Value} {W : Nat} (hown : s.vm.findClass own = some m.cls) (hy1 : y.name = "<init>") (w1 : (Jvm.Cond.methodLink own i y).before a0 Z = true) (w2 : (Jvm.Cond.instanceMethod y).before a0 Z = true) (w3 : (Jvm.Cond.initialized y.cls).before a0 Z = true) (w4 : (Jvm.Cond.code y bytes maxL none).before a0 Z = true) (hy : y.cls ≠ "java/lang/invoke/MethodHandle" ∧ y.cls ≠ "java/lang/invoke/VarHandle")
    (hM : oMet l Z h0 lo y bytes maxL none [] rm (.ref a :: argsL).toArray ds Q') (hlen : ∀ sig, parseMethodDescriptor y.desc = some sig → argsL.length = sig.parameters.length) (hd : decode c.code pc = .ok (.invokespecial i, 3)) (hp : pc + 3 = pc') (hst : st = argsL.reverse ++ .ref a :: rest) (hsz : ls.size = c.maxLocals) (hW : (rest.map fun v => v.category).sum ≤ W)
    (hr : rm.frames + 1 ≤ R.frames ∧ W + (maxL + 11) + rm.locals ≤ R.locals ∧ cells + rm.cells ≤ R.cells ∧ slots + rm.slots ≤ R.slots) {cells' slots' : Nat} (hc' : cells + rm.cells = cells') (hs' : slots + rm.slots = slots')
    (k : ∀ T v ds', Q' v ds' → oB p l e R s m args below meth c Z h0 lo T cells' slots' ds' → oWin p e below Z h0 Q E (T.setTop (mkF m pc' ls (v.toList ++ rest)))) : oWin p e below Z h0 Q E (T.setTop (mkF m pc ls st)) := by
  subst hp hst hc' hs'
  obtain ⟨hx, hZ, hlk, locs, X, N, H⟩ := B
  obtain ⟨v, vm1, ⟨T', L', k', n'⟩, -, X', ⟨Lc, ⟨N', ds', H', hQ⟩, e1, e2, e3⟩, stp⟩ := X.specialBack hx (y := y) hy1 hown (mvT hZ w1) (mvT hZ w2) (mvT hZ w4) hy (backOf (W := W) (Q := fun v h L => Fr h0.size L ∧ ∃ ds', oHP Z h0 lo h ds' ∧ Q' v ds') (hM _ H) hZ w4 w3 hr.1 hr.2.1) (g := mkF m pc ls (argsL.reverse ++ .ref a :: rest)) rfl hsz (Steps.refl _) (a := a) hlen rfl (by simpa using hW) hd (fun _ _ => ⟨rfl, rfl, hr.2.2.1, hr.2.2.2⟩)
  dsimp only [Pt.U, Pt.locs, Pt.cells, Pt.slots] at X' e1 e2 e3 stp H'
  subst e1 e2 e3
  exact (k T' v ds' hQ ⟨hx, hZ, hlk, _, X', N.app N', H'⟩).steps stp
theorem W_virtual (B : oB p l e R s m args below meth c Z h0 lo T cells slots ds) {own C : String} {i j : Nat} {y z : MethodName} {bytes : ByteArray} {maxL : Nat} {ret : Option FieldType} {rm : Room} {Q' : Option Value → oDs → Prop} {a : Addr} {fs : List (oFK × Value)} {argsL rest : List Value} {W : Nat} (hown : s.vm.findClass own = some m.cls) (w1 : (Jvm.Cond.methodLink own i y).before a0 Z = true) (w2 : (Jvm.Cond.declares y).before a0 Z = true) (hnf : NotFace s y) (ws : (Jvm.Cond.selects C y z).before a0 Z = true) (wm : (Jvm.Cond.instanceMethod z).before a0 Z = true) (w3 : (Jvm.Cond.initialized z.cls).before a0 Z = true) (w4 : (Jvm.Cond.code z bytes maxL ret).before a0 Z = true) (hy : y.cls ≠ "java/lang/invoke/MethodHandle" ∧ y.cls ≠ "java/lang/invoke/VarHandle")
    (hM : oMet l Z h0 lo z bytes maxL ret [] rm (.ref a :: argsL).toArray ds Q') (hlen : ∀ sig, parseMethodDescriptor y.desc = some sig → argsL.length = sig.parameters.length) (hd : decode c.code pc = .ok (.invokevirtual i, 3)) (hp : pc + 3 = pc') (hst : st = argsL.reverse ++ .ref a :: rest) (hsz : ls.size = c.maxLocals) (hW : (rest.map fun v => v.category).sum ≤ W) (hi : ds[j]? = some (a, oO C fs))
    (hr : rm.frames + 1 ≤ R.frames ∧ W + (maxL + 11) + rm.locals ≤ R.locals ∧ cells + rm.cells ≤ R.cells ∧ slots + rm.slots ≤ R.slots) {cells' slots' : Nat} (hc' : cells + rm.cells = cells') (hs' : slots + rm.slots = slots')
    (k : ∀ T v ds', Q' v ds' → oB p l e R s m args below meth c Z h0 lo T cells' slots' ds' → oWin p e below Z h0 Q E (T.setTop (mkF m pc' ls (v.toList ++ rest)))) : oWin p e below Z h0 Q E (T.setTop (mkF m pc ls st)) := by
  subst hp hst hc' hs'
  obtain ⟨hx, hZ, hlk, locs, X, N, H⟩ := B
  obtain ⟨cq, kq, q1, q2, q3⟩ := isOf (T := T) hZ rfl (H.at hi).2.1
  obtain ⟨v, vm1, ⟨T', L', k', n'⟩, -, X', ⟨Lc, ⟨N', ds', H', hQ⟩, e1, e2, e3⟩, stp⟩ := X.virtualBack hx (y := y) (z := z) hown (mvT hZ w1) (mvT hZ w2) hnf (mvT hZ ws) (mvT hZ wm) hy (backOf (W := W) (Q := fun v h L => Fr h0.size L ∧ ∃ ds', oHP Z h0 lo h ds' ∧ Q' v ds') (hM _ H) hZ w4 w3 hr.1 hr.2.1) q1 q3 (g := mkF m pc ls (argsL.reverse ++ .ref a :: rest)) rfl hsz (Steps.refl _) hlen rfl (by simpa using hW) hd (fun _ _ => ⟨rfl, rfl, hr.2.2.1, hr.2.2.2⟩)
  dsimp only [Pt.U, Pt.locs, Pt.cells, Pt.slots] at X' e1 e2 e3 stp H'
  subst e1 e2 e3
  exact (k T' v ds' hQ ⟨hx, hZ, hlk, _, X', N.app N', H'⟩).steps stp
theorem oNotFace (B : oB p l e R s m args below meth c Z h0 lo T cells slots ds) {C : String} {y z : MethodName} (ws : (Jvm.Cond.selects C y z).before a0 Z = true) (hyz : y = z) : NotFace s y := by
  subst hyz; exact notFace_of_selects (args := #[]) (mvT B.2.1 ws)
theorem oWin.leave (B : oB p l e R s m args below meth c Z h0 lo T cells slots ds) {v : Option Value} {S : State} (hv : meth.sig.returnType = none → v = none) (hq : Q v ds) (hr : cells ≤ kc ∧ slots ≤ ks) (hstep : ∀ fs, (∀ (f : JFrame) (acts : List Action), f.method = m → f.locked = none → f.entered = [] → (doReturn e (T.setTop f) acts v).1 = T.setFrames fs) → Steps p.tables e below S (T.setFrames fs)) : oWin p e below Z h0 Q (oFE s lo kc ks) S := by
  obtain ⟨hx, hZ, hlk, locs, X, N, H⟩ := B
  obtain ⟨fs, hrr, hrun, hended, hW, hsame⟩ := X.leave (v := v) hv hlk
  exact ⟨_, _, hstep fs hrr, hrun, hended, v, locs, rfl, ⟨N, lo, ds, H, hq⟩, H.1.2, ⟨_, rfl⟩, hW, hsame.mono hr.1 hr.2⟩
theorem oWin.leaveW {vm₁ : Vm} (B : oB p l e R (s.setVm vm₁) m args below meth c Z h0 lo T cells slots ds) (hS : s.Since vm₁ lo) {v : Option Value} {S : State} (hv : meth.sig.returnType = none → v = none) (hq : Q v ds) (hr : cells ≤ kc ∧ slots ≤ ks) (hstep : ∀ fs, (∀ (f : JFrame) (acts : List Action), f.method = m → f.locked = none → f.entered = [] → (doReturn e (T.setTop f) acts v).1 = T.setFrames fs) → Steps p.tables e below S (T.setFrames fs)) : oWin p e below Z h0 Q (oFW s kc ks) S := by
  obtain ⟨hx, hZ, hlk, locs, X, N, H⟩ := B
  obtain ⟨fs, hrr, hrun, hended, h1, h2, h3, h4⟩ := X.leaveW hS H.1.2 (v := v) hv hlk
  exact ⟨_, _, hstep fs hrr, hrun, hended, v, locs, rfl, ⟨N, lo, ds, H, hq⟩, h1, h2, h3, h4.mono hr.1 hr.2⟩
theorem W_retNW {vm₁ : Vm} (B : oB p l e R (s.setVm vm₁) m args below meth c Z h0 lo T cells slots ds) (hS : s.Since vm₁ lo) {z : Int32} {t : FieldType} (hret : meth.sig.returnType = some t) (ht : t = .boolean ∨ t = .byte ∨ t = .char ∨ t = .short) (hd : decode c.code pc = .ok (.ireturn, 1)) (hr : cells ≤ kc ∧ slots ≤ ks) (hq : Q (some (.int (nar t z))) ds) : oWin p e below Z h0 Q (oFW s kc ks) (T.setTop (mkF m pc ls (.int z :: st))) := by
  have B' := B
  obtain ⟨hx, hZ, hlk, locs, X, N, H⟩ := B'
  exact oWin.leaveW B hS (v := some (.int (nar t z))) (fun h => by rw [hret] at h; cases h) hq hr fun fs hl => retN X hx hret ht hd hl
theorem W_ldcStr {vm₀ : Vm} (B : oB p l e R (s.setVm vm₀) m args below meth c Z h0 lo T cells slots ds) (hS : s.Since vm₀ lo) {own text : String} {i n : Nat} (hown : (s.setVm vm₀).vm.findClass own = some m.cls) (w : (Jvm.Cond.stringLink own i text).before a0 Z = true) (wS : ∀ a ∈ Bundle.stringAtoms, a.before a0 Z = true) (hd : decode c.code pc = .ok (.ldc i, 2)) (hp : pc + 2 = pc') (hn : 4 * text.toList.length ≤ n) (hr : n ≤ 536870912 ∧ cells + 2 ≤ R.cells ∧ slots + (n + 4) ≤ R.slots) {cells' slots' : Nat} (hc' : cells + 2 = cells') (hs' : slots + (n + 4) = slots')
    (k : ∀ T a vm₁ lo', oB p l e R (s.setVm vm₁) m args below meth c Z h0 lo' T cells' slots' ds → s.Since vm₁ lo' → (s.setVm vm₁).vm.findClass own = some m.cls → oWin p e below Z h0 Q E (T.setTop (mkF m pc' ls (.ref a :: st)))) : oWin p e below Z h0 Q E (T.setTop (mkF m pc ls st)) := by
  subst hp hc' hs'
  obtain ⟨hx, hZ, hlk, locs, X, N, H⟩ := B
  obtain ⟨a, T', h', k1, X', e', E1, hS', hk1, hZ', hown', stp⟩ := ldcS X hx hZ hown w wS rfl hS H.1.2 (g := mkF m pc ls st) rfl hd hn hr.1 hr.2.1 hr.2.2
  subst e'
  exact (k T' a T'.vm k1 ⟨hx, hZ', hlk, locs, X', N, H.more E1 hk1⟩ hS' hown').step stp
theorem W_retI (B : oB p l e R s m args below meth c Z h0 lo T cells slots ds) {z : Int32} (hret : meth.sig.returnType = some .int) (hd : decode c.code pc = .ok (.ireturn, 1)) (hr : cells ≤ kc ∧ slots ≤ ks) (hq : Q (some (.int z)) ds) : oWin p e below Z h0 Q (oFE s lo kc ks) (T.setTop (mkF m pc ls (.int z :: st))) := by
  have B' := B
  obtain ⟨hx, hZ, hlk, locs, X, N, H⟩ := B'
  refine oWin.leave B (v := some (.int z)) (fun h => by rw [hret] at h; cases h) hq hr fun fs hl => ?_
  have hm' : T.vm.method? m = some meth := X.method'
  have hn : narrow .int (.int z) = .int z := rfl
  show Steps p.tables e below (T.setTop { method := m, pc := pc, locals := ls, stack := _ :: st, locked := none }) _
  jvm_step X.here [X.here.top, hx, hd, hm', hret, hn]
  first | (intro acts; rw [hl _ acts rfl rfl rfl]) | rw [hl _ _ rfl rfl rfl]
  exact Steps.refl _
theorem W_retL (B : oB p l e R s m args below meth c Z h0 lo T cells slots ds) {z : Int64} (hret : meth.sig.returnType = some .long) (hd : decode c.code pc = .ok (.lreturn, 1)) (hr : cells ≤ kc ∧ slots ≤ ks) (hq : Q (some (.long z)) ds) : oWin p e below Z h0 Q (oFE s lo kc ks) (T.setTop (mkF m pc ls (.long z :: st))) := by
  have B' := B
  obtain ⟨hx, hZ, hlk, locs, X, N, H⟩ := B'
  refine oWin.leave B (v := some (.long z)) (fun h => by rw [hret] at h; cases h) hq hr fun fs hl => ?_
  have hm' : T.vm.method? m = some meth := X.method'
  show Steps p.tables e below (T.setTop { method := m, pc := pc, locals := ls, stack := _ :: st, locked := none }) _
  jvm_step X.here [X.here.top, hx, hd, hm', hret, narrow]
  first | (intro acts; rw [hl _ acts rfl rfl rfl]) | rw [hl _ _ rfl rfl rfl]
  exact Steps.refl _
theorem W_retN (B : oB p l e R s m args below meth c Z h0 lo T cells slots ds) {z : Int32} {t : FieldType} (hret : meth.sig.returnType = some t) (ht : t = .boolean ∨ t = .byte ∨ t = .char ∨ t = .short) (hd : decode c.code pc = .ok (.ireturn, 1)) (hr : cells ≤ kc ∧ slots ≤ ks) (hq : Q (some (.int (nar t z))) ds) : oWin p e below Z h0 Q (oFE s lo kc ks) (T.setTop (mkF m pc ls (.int z :: st))) := by
  have B' := B
  obtain ⟨hx, hZ, hlk, locs, X, N, H⟩ := B'
  exact oWin.leave B (v := some (.int (nar t z))) (fun h => by rw [hret] at h; cases h) hq hr fun fs hl => retN X hx hret ht hd hl
theorem W_retV (B : oB p l e R s m args below meth c Z h0 lo T cells slots ds) (hret : meth.sig.returnType = none) (hd : decode c.code pc = .ok (.return_, 1)) (hr : cells ≤ kc ∧ slots ≤ ks) (hq : Q none ds) : oWin p e below Z h0 Q (oFE s lo kc ks) (T.setTop (mkF m pc ls [])) := by
  have B' := B
  obtain ⟨hx, hZ, hlk, locs, X, N, H⟩ := B'
  exact oWin.leave B (v := none) (fun _ => rfl) hq hr fun fs hl => X.returnOut hx hret hd hl
theorem W_retA (B : oB p l e R s m args below meth c Z h0 lo T cells slots ds) {v : Value} {t : FieldType} (hret : meth.sig.returnType = some t) (ht : t.isReference = true) (hv : v.isRef = true) (hd : decode c.code pc = .ok (.areturn, 1)) (hr : cells ≤ kc ∧ slots ≤ ks) (hq : Q (some v) ds) : oWin p e below Z h0 Q (oFE s lo kc ks) (T.setTop (mkF m pc ls (v :: st))) := by
  have B' := B
  obtain ⟨hx, hZ, hlk, locs, X, N, H⟩ := B'
  refine oWin.leave B (v := some v) (fun h => by rw [hret] at h; cases h) hq hr fun fs hl => ?_
  have hm' : T.vm.method? m = some meth := X.method'
  show Steps p.tables e below (T.setTop { method := m, pc := pc, locals := ls, stack := _ :: st, locked := none }) _
  cases v <;> simp [Value.isRef] at hv
  all_goals
    jvm_step X.here [X.here.top, hx, hd, hm', hret, Value.isRef, FieldType.isReference, ht]
    refine ⟨ht, fun acts => ?_⟩
    rw [hl _ acts rfl rfl rfl]
    exact Steps.refl _
theorem oB_ne (B : oB p l e R s m args below meth c Z h0 lo T cells slots ds) {i j : Nat} {x y : Addr × oD} (hi : ds[i]? = some x) (hj : ds[j]? = some y) (ne : i ≠ j) : x.1 ≠ y.1 := by
  obtain ⟨hx, hZ, hlk, locs, X, N, H⟩ := B
  exact H.ne hi hj ne
theorem oB_new (B : oB p l e R s m args below meth c Z h0 lo T cells slots ds) {i : Nat} {x : Addr × oD} (hi : ds[i]? = some x) : h0.size ≤ x.1 := by
  obtain ⟨hx, hZ, hlk, locs, X, N, H⟩ := B
  exact (H.at (a := x.1) (d := x.2) hi).1
theorem oJoin (B : oB p l e R s m args below meth c Z h0 lo T cells slots ds) {α : Type} (P : α → Prop) (f : α → JFrame) {g : JFrame} (h1 : (∀ z T', P z → oB p l e R s m args below meth c Z h0 lo T' cells slots ds → oWin p e below Z h0 Q E (T'.setTop (f z))) → oWin p e below Z h0 Q E (T.setTop g)) (h2 : ∀ z T', P z → oB p l e R s m args below meth c Z h0 lo T' cells slots ds → oWin p e below Z h0 Q E (T'.setTop (f z))) : oWin p e below Z h0 Q E (T.setTop g) := h1 h2
theorem oJoinD (B : oB p l e R s m args below meth c Z h0 lo T cells slots ds) {α : Type} (cells' slots' : Nat) (P : α → Prop) (f : α → JFrame) (D : α → oDs) {g : JFrame} (h1 : (∀ z T', P z → oB p l e R s m args below meth c Z h0 lo T' cells' slots' (D z) → oWin p e below Z h0 Q E (T'.setTop (f z))) → oWin p e below Z h0 Q E (T.setTop g)) (h2 : ∀ z T', P z → oB p l e R s m args below meth c Z h0 lo T' cells' slots' (D z) → oWin p e below Z h0 Q E (T'.setTop (f z))) : oWin p e below Z h0 Q E (T.setTop g) := h1 h2
theorem oNatLt {x : Int32} {k : Nat} (h : x.toInt < k) (hk : 0 < k) : x.toNatClampNeg < k := by
  show x.toInt.toNat < k
  omega
theorem W_virtualOld (B : oB p l e R s m args below meth c Z h0 lo T cells slots ds) {own C : String} {i : Nat} {y z : MethodName} {bytes : ByteArray} {maxL : Nat} {ret : Option FieldType} {rm : Room} {Q' : Option Value → oDs → Prop} {a : Addr} {argsL rest : List Value} {W : Nat} (hown : s.vm.findClass own = some m.cls) (w1 : (Jvm.Cond.methodLink own i y).before a0 Z = true) (w2 : (Jvm.Cond.declares y).before a0 Z = true) (hnf : NotFace s y) (ws : (Jvm.Cond.selects C y z).before a0 Z = true) (wm : (Jvm.Cond.instanceMethod z).before a0 Z = true) (w3 : (Jvm.Cond.initialized z.cls).before a0 Z = true) (w4 : (Jvm.Cond.code z bytes maxL ret).before a0 Z = true) (hy : y.cls ≠ "java/lang/invoke/MethodHandle" ∧ y.cls ≠ "java/lang/invoke/VarHandle")
    (hM : oMet l Z h0 lo z bytes maxL ret [] rm (.ref a :: argsL).toArray ds Q') (hlen : ∀ sig, parseMethodDescriptor y.desc = some sig → argsL.length = sig.parameters.length) (hd : decode c.code pc = .ok (.invokevirtual i, 3)) (hp : pc + 3 = pc') (hst : st = argsL.reverse ++ .ref a :: rest) (hsz : ls.size = c.maxLocals) (hW : (rest.map fun v => v.category).sum ≤ W) (hE : Exa Z h0 a C)
    (hr : rm.frames + 1 ≤ R.frames ∧ W + (maxL + 11) + rm.locals ≤ R.locals ∧ cells + rm.cells ≤ R.cells ∧ slots + rm.slots ≤ R.slots) {cells' slots' : Nat} (hc' : cells + rm.cells = cells') (hs' : slots + rm.slots = slots')
    (k : ∀ T v ds', Q' v ds' → oB p l e R s m args below meth c Z h0 lo T cells' slots' ds' → oWin p e below Z h0 Q E (T.setTop (mkF m pc' ls (v.toList ++ rest)))) : oWin p e below Z h0 Q E (T.setTop (mkF m pc ls st)) := by
  subst hp hst hc' hs'
  obtain ⟨hx, hZ, hlk, locs, X, N, H⟩ := B
  obtain ⟨cq, kq, q1, q2, q3⟩ := isOf (T := T) hZ rfl (hE.ext H.1.1)
  obtain ⟨v, vm1, ⟨T', L', k', n'⟩, -, X', ⟨Lc, ⟨N', ds', H', hQ⟩, e1, e2, e3⟩, stp⟩ := X.virtualBack hx (y := y) (z := z) hown (mvT hZ w1) (mvT hZ w2) hnf (mvT hZ ws) (mvT hZ wm) hy (backOf (W := W) (Q := fun v h L => Fr h0.size L ∧ ∃ ds', oHP Z h0 lo h ds' ∧ Q' v ds') (hM _ H) hZ w4 w3 hr.1 hr.2.1) q1 q3 (g := mkF m pc ls (argsL.reverse ++ .ref a :: rest)) rfl hsz (Steps.refl _) hlen rfl (by simpa using hW) hd (fun _ _ => ⟨rfl, rfl, hr.2.2.1, hr.2.2.2⟩)
  dsimp only [Pt.U, Pt.locs, Pt.cells, Pt.slots] at X' e1 e2 e3 stp H'
  subst e1 e2 e3
  exact (k T' v ds' hQ ⟨hx, hZ, hlk, _, X', N.app N', H'⟩).steps stp
theorem W_private (B : oB p l e R s m args below meth c Z h0 lo T cells slots ds) {own C : String} {i j : Nat} {y : MethodName} {bytes : ByteArray} {maxL : Nat} {ret : Option FieldType} {rm : Room} {Q' : Option Value → oDs → Prop} {a : Addr} {fs : List (oFK × Value)} {argsL rest : List Value} {W : Nat} (hown : s.vm.findClass own = some m.cls) (w1 : (Jvm.Cond.methodLink own i y).before a0 Z = true) (w2 : (Jvm.Cond.instanceMethod y).before a0 Z = true) (ws : (Jvm.Cond.selects y.cls y y).before a0 Z = true) (wp : (Jvm.Cond.privateMethod y).before a0 Z = true) (w3 : (Jvm.Cond.initialized y.cls).before a0 Z = true) (w4 : (Jvm.Cond.code y bytes maxL ret).before a0 Z = true) (hy : y.cls ≠ "java/lang/invoke/MethodHandle" ∧ y.cls ≠ "java/lang/invoke/VarHandle")
    (hM : oMet l Z h0 lo y bytes maxL ret [] rm (.ref a :: argsL).toArray ds Q') (hlen : ∀ sig, parseMethodDescriptor y.desc = some sig → argsL.length = sig.parameters.length) (hd : decode c.code pc = .ok (.invokevirtual i, 3)) (hp : pc + 3 = pc') (hst : st = argsL.reverse ++ .ref a :: rest) (hsz : ls.size = c.maxLocals) (hW : (rest.map fun v => v.category).sum ≤ W) (hi : ds[j]? = some (a, oO C fs))
    (hr : rm.frames + 1 ≤ R.frames ∧ W + (maxL + 11) + rm.locals ≤ R.locals ∧ cells + rm.cells ≤ R.cells ∧ slots + rm.slots ≤ R.slots) {cells' slots' : Nat} (hc' : cells + rm.cells = cells') (hs' : slots + rm.slots = slots')
    (k : ∀ T v ds', Q' v ds' → oB p l e R s m args below meth c Z h0 lo T cells' slots' ds' → oWin p e below Z h0 Q E (T.setTop (mkF m pc' ls (v.toList ++ rest)))) : oWin p e below Z h0 Q E (T.setTop (mkF m pc ls st)) := by
  subst hp hst hc' hs'
  obtain ⟨hx, hZ, hlk, locs, X, N, H⟩ := B
  obtain ⟨cq, q1, q2⟩ := (H.at hi).2.1.cell
  obtain ⟨v, vm1, ⟨T', L', k', n'⟩, -, X', ⟨Lc, ⟨N', ds', H', hQ⟩, e1, e2, e3⟩, stp⟩ := X.privateBack hx (y := y) hown (mvT hZ w1) (mvT hZ w2) (mvT hZ ws) (Cond.privateMethod_at (mvP hZ wp (args := #[]))) (mvT hZ w4) hy (backOf (W := W) (Q := fun v h L => Fr h0.size L ∧ ∃ ds', oHP Z h0 lo h ds' ∧ Q' v ds') (hM _ H) hZ w4 w3 hr.1 hr.2.1) (g := mkF m pc ls (argsL.reverse ++ .ref a :: rest)) rfl hsz (Steps.refl _) (a := a) q1 q2 hlen rfl (by simpa using hW) hd (fun _ _ => ⟨rfl, rfl, hr.2.2.1, hr.2.2.2⟩)
  dsimp only [Pt.U, Pt.locs, Pt.cells, Pt.slots] at X' e1 e2 e3 stp H'
  subst e1 e2 e3
  exact (k T' v ds' hQ ⟨hx, hZ, hlk, _, X', N.app N', H'⟩).steps stp
end Wlaws
theorem own_c2 {v k : Int32} (h : v = k &&& (1 : Int32)) : v = 0 ∨ v = 1 := by
  have q := c_and k 1 (by decide)
  rw [← h] at q
  have e3 : (1 : Int32).toInt = 1 := rfl
  have : v.toInt = 0 ∨ v.toInt = 1 := by omega
  exact this.imp (fun e => otoI e) fun e => otoI e
theorem own_c3 {v k : Int32} (h : v = (k &&& (3 : Int32)) % (3 : Int32)) : v = 0 ∨ v = 1 ∨ v = 2 := by
  have q := c_and k 3 (by decide)
  have f2 := oirem (k &&& (3 : Int32)) 3 3 rfl (by decide) (by decide)
  rw [← h] at f2
  have e3 : (3 : Int32).toInt = 3 := rfl
  have : v.toInt = 0 ∨ v.toInt = 1 ∨ v.toInt = 2 := by omega
  exact this.imp (fun e => otoI e) fun t => t.imp (fun e => otoI e) fun e => otoI e
theorem d5_0 : decode jdk_29_method_69_code 0 = .ok (.iload_n 0, 1) := by decide +kernel
theorem d5_1 : decode jdk_29_method_69_code 1 = .ok (.iload_n 1, 1) := by decide +kernel
theorem d5_2 : decode jdk_29_method_69_code 2 = .ok (.if_icmp .gt 7, 3) := by decide +kernel
theorem d5_5 : decode jdk_29_method_69_code 5 = .ok (.iload_n 0, 1) := by decide +kernel
theorem d5_6 : decode jdk_29_method_69_code 6 = .ok (.goto 4, 3) := by decide +kernel
theorem d5_10 : decode jdk_29_method_69_code 10 = .ok (.ireturn, 1) := by decide +kernel
theorem ef_rm_min (m : MethodId)  : entryFrame m #[(.int (16 : Int32)), (.int (2147483639 : Int32))] 2 = mkF m 0 #[.val (.int (16 : Int32)), .val (.int (2147483639 : Int32))] [] := by first | (simp [entryFrame, mkF, argsToLocals, Value.category]; done) | rfl
set_option maxRecDepth 65536 in
set_option maxHeartbeats 40000000 in
theorem rm_min (l : Launch) (Z : State) (a0 : Array Value) (hw : ∀ d ∈ tables_1, d.before a0 Z = true) (h0 : Heap) {lo : Nat} (ds : oDs) :
    oMet l Z h0 lo (⟨"java/lang/Math", "min", "(II)I"⟩ : MethodName) jdk_29_method_69_code 2 (some .int) [] ({ frames := 0, cells := 0, slots := 0, locals := 0 } : Room) #[(.int (16 : Int32)), (.int (2147483639 : Int32))] (ds) (fun (v : Option Value) (d : oDs) => (v = some (.int (16 : Int32)) ∧ (ds) = d)) := by
  refine oMet.of_body (Jvm.Free.JP.mathPlain rfl (by decide +kernel)) ?_
  intro p e s m below meth c T B hby hml hown hnm hret
  refine W_entry (ef_rm_min m ) ?_
  refine W_iloadN B (hb hby d5_0) (pc' := 1) rfl rfl ?_
  refine W_iloadN B (hb hby d5_1) (pc' := 2) rfl rfl ?_
  refine W_icmpN B (hb hby d5_2) (pc' := 5) rfl (by decide) ?_
  refine W_iloadN B (hb hby d5_5) (pc' := 6) rfl rfl ?_
  refine W_goto B (hb hby d5_6) (by decide) (pc' := 10) (by decide) ?_
  refine W_retI B hret (hb hby d5_10) (by decide) ?_
  exact ⟨rfl, rfl⟩
theorem d4_0 : decode prog_16_method_2_code 0 = .ok (.aload_n 0, 1) := by decide +kernel
theorem d4_1 : decode prog_16_method_2_code 1 = .ok (.invokespecial 10, 3) := by decide +kernel
theorem d4_4 : decode prog_16_method_2_code 4 = .ok (.aload_n 0, 1) := by decide +kernel
theorem d4_5 : decode prog_16_method_2_code 5 = .ok (.aload_n 1, 1) := by decide +kernel
theorem d4_6 : decode prog_16_method_2_code 6 = .ok (.putfield 15, 3) := by decide +kernel
abbrev cn0 : String := "com/example/tanglemark/tanglemark/datalog/Ints"
abbrev fk0 : oFK := ("com/example/tanglemark/tanglemark/datalog/Ints", "owner", "Ljava/lang/String;")
abbrev fk1 : oFK := ("com/example/tanglemark/tanglemark/datalog/Ints", "maxLength", "I")
abbrev fk2 : oFK := ("com/example/tanglemark/tanglemark/datalog/Ints", "values", "[I")
theorem d4_9 : decode prog_16_method_2_code 9 = .ok (.aload_n 0, 1) := by decide +kernel
theorem d4_10 : decode prog_16_method_2_code 10 = .ok (.iload_n 2, 1) := by decide +kernel
theorem d4_11 : decode prog_16_method_2_code 11 = .ok (.putfield 19, 3) := by decide +kernel
theorem d4_14 : decode prog_16_method_2_code 14 = .ok (.aload_n 0, 1) := by decide +kernel
theorem d4_15 : decode prog_16_method_2_code 15 = .ok (.bipush 16, 2) := by decide +kernel
theorem d4_17 : decode prog_16_method_2_code 17 = .ok (.iload_n 2, 1) := by decide +kernel
theorem d4_18 : decode prog_16_method_2_code 18 = .ok (.invokestatic 23, 3) := by decide +kernel
theorem pd_0 : parseMethodDescriptor "(II)I" = some ⟨[.int, .int], some .int⟩ := by decide +kernel
theorem d4_21 : decode prog_16_method_2_code 21 = .ok (.newarray .int, 2) := by decide +kernel
theorem d4_23 : decode prog_16_method_2_code 23 = .ok (.putfield 29, 3) := by decide +kernel
theorem d4_26 : decode prog_16_method_2_code 26 = .ok (.return_, 1) := by decide +kernel
theorem ef_rm_ints2 (m : MethodId) (x0 : Addr) (x1 : Addr) : entryFrame m #[(.ref x0), (.ref x1), (.int (2147483639 : Int32))] 3 = mkF m 0 #[.val (.ref x0), .val (.ref x1), .val (.int (2147483639 : Int32))] [] := by first | (simp [entryFrame, mkF, argsToLocals, Value.category]; done) | rfl
theorem pn_0 : plainName "com/example/tanglemark/tanglemark/datalog/Ints" = true := by first | (simp [plainName, overriddenIn]; done) | decide +kernel
set_option maxRecDepth 65536 in
set_option maxHeartbeats 40000000 in
theorem rm_ints2 (l : Launch) (Z : State) (a0 : Array Value) (hw : ∀ d ∈ tables_1, d.before a0 Z = true) (h0 : Heap) {lo : Nat} (a1 : Addr) (s1 : Addr) (ds : oDs) :
    oMet l Z h0 lo (⟨"com/example/tanglemark/tanglemark/datalog/Ints", "<init>", "(Ljava/lang/String;I)V"⟩ : MethodName) prog_16_method_2_code 3 none [] ({ frames := 1, cells := 1, slots := 16, locals := 14 } : Room) #[(.ref a1), (.ref s1), (.int (2147483639 : Int32))] ((a1, oO cn0 [(fk0, .null), (fk1, (.int (0 : Int32))), (fk2, .null)]) :: ds) (fun (v : Option Value) (d : oDs) => (∃ (b : Addr), v = none ∧ ((b, oA .int [o0, o0, o0, o0, o0, o0, o0, o0, o0, o0, o0, o0, o0, o0, o0, o0]) :: (a1, oO cn0 [(fk0, (.ref s1)), (fk1, (.int (2147483639 : Int32))), (fk2, (.ref b))]) :: ds) = d)) := by
  refine oMet.of_body (plainFor_of_name pn_0) ?_
  intro p e s m below meth c T B hby hml hown hnm hret
  refine W_entry (ef_rm_ints2 m a1 s1) ?_
  refine W_aloadN B (hb hby d4_0) (pc' := 1) rfl rfl rfl ?_
  refine W_initO B hown (ow hw (i := 31) rfl) (ow hw (i := 19) rfl) (ow hw (i := 20) rfl) (hb hby d4_1) (pc' := 4) rfl (by rw [hml]; rfl) (W := 0) (oLe rfl) (by decide) ?_
  intro T B
  refine W_aloadN B (hb hby d4_4) (pc' := 5) rfl rfl rfl ?_
  refine W_aloadN B (hb hby d4_5) (pc' := 6) rfl rfl rfl ?_
  refine W_putfield B hown (host := "") (Or.inl (ow hw (i := 32) rfl)) Via.refl (hb hby d4_6) (pc' := 9) rfl (Or.inr ⟨(ow hw (i := 33) rfl), rfl, hnm⟩) (ow hw (i := 22) rfl) (ty := (.object "java/lang/String")) (by decide) rfl rfl (j := 0) rfl (q := 0) rfl (ds' := ((a1, oO cn0 [(fk0, (.ref s1)), (fk1, (.int (0 : Int32))), (fk2, .null)]) :: ds)) rfl ?_
  intro T B
  refine W_aloadN B (hb hby d4_9) (pc' := 10) rfl rfl rfl ?_
  refine W_iloadN B (hb hby d4_10) (pc' := 11) rfl rfl ?_
  refine W_putfield B hown (host := "") (Or.inl (ow hw (i := 34) rfl)) Via.refl (hb hby d4_11) (pc' := 14) rfl (Or.inr ⟨(ow hw (i := 35) rfl), rfl, hnm⟩) (ow hw (i := 22) rfl) (ty := .int) (by decide) rfl rfl (j := 0) rfl (q := 1) rfl (ds' := ((a1, oO cn0 [(fk0, (.ref s1)), (fk1, (.int (2147483639 : Int32))), (fk2, .null)]) :: ds)) rfl ?_
  intro T B
  refine W_aloadN B (hb hby d4_14) (pc' := 15) rfl rfl rfl ?_
  refine W_bipush B (hb hby d4_15) (pc' := 17) rfl (z := (16 : Int32)) (by decide) ?_
  refine W_iloadN B (hb hby d4_17) (pc' := 18) rfl rfl ?_
  refine W_callS B (y := (⟨"java/lang/Math", "min", "(II)I"⟩ : MethodName)) hown (ow hw (i := 36) rfl) (ow hw (i := 37) rfl) (ow hw (i := 38) rfl) (ow hw (i := 39) rfl) (by decide) (rm_min l Z a0 hw h0 ((a1, oO cn0 [(fk0, (.ref s1)), (fk1, (.int (2147483639 : Int32))), (fk2, .null)]) :: ds)) (lenOf pd_0 rfl) (hb hby d4_18) (pc' := 21) rfl (argsL := [(.int (16 : Int32)), (.int (2147483639 : Int32))]) (rest := [(.ref a1)]) rfl (by rw [hml]; rfl) (W := 1) (oLe rfl) (by decide) (cells' := 0) rfl (slots' := 0) rfl ?_
  intro T v_ d_ q_ B
  obtain ⟨rfl, rfl⟩ := q_
  show oWin p e below Z h0 _ _ (T.setTop (mkF m 21 #[.val (.ref a1), .val (.ref s1), .val (.int (2147483639 : Int32))] [(.int (16 : Int32)), (.ref a1)]))
  refine W_newarray B (ow hw (i := 0) rfl) (hb hby d4_21) (pc' := 23) rfl (by decide) (cap := 16) (by decide) (by decide) (cells' := 1) rfl (slots' := 16) rfl (vs := [(.int (0 : Int32)), (.int (0 : Int32)), (.int (0 : Int32)), (.int (0 : Int32)), (.int (0 : Int32)), (.int (0 : Int32)), (.int (0 : Int32)), (.int (0 : Int32)), (.int (0 : Int32)), (.int (0 : Int32)), (.int (0 : Int32)), (.int (0 : Int32)), (.int (0 : Int32)), (.int (0 : Int32)), (.int (0 : Int32)), (.int (0 : Int32))]) rfl (ty := .int) rfl ?_
  intro T b1 B
  refine W_putfield B hown (host := "") (Or.inl (ow hw (i := 40) rfl)) Via.refl (hb hby d4_23) (pc' := 26) rfl (Or.inl (ow hw (i := 41) rfl)) (ow hw (i := 22) rfl) (ty := (.array .int)) (by decide) rfl rfl (j := 1) rfl (q := 2) rfl (ds' := ((b1, oA .int [o0, o0, o0, o0, o0, o0, o0, o0, o0, o0, o0, o0, o0, o0, o0, o0]) :: (a1, oO cn0 [(fk0, (.ref s1)), (fk1, (.int (2147483639 : Int32))), (fk2, (.ref b1))]) :: ds)) rfl ?_
  intro T B
  refine W_retV B hret (hb hby d4_26) (by decide) ?_
  exact ⟨_, rfl, rfl⟩
theorem d3_0 : decode prog_16_method_1_code 0 = .ok (.aload_n 0, 1) := by decide +kernel
theorem d3_1 : decode prog_16_method_1_code 1 = .ok (.aload_n 1, 1) := by decide +kernel
theorem d3_2 : decode prog_16_method_1_code 2 = .ok (.ldc 3, 2) := by decide +kernel
theorem d3_4 : decode prog_16_method_1_code 4 = .ok (.invokespecial 4, 3) := by decide +kernel
theorem pd_1 : parseMethodDescriptor "(Ljava/lang/String;I)V" = some ⟨[(.object "java/lang/String"), .int], none⟩ := by decide +kernel
theorem d3_7 : decode prog_16_method_1_code 7 = .ok (.return_, 1) := by decide +kernel
theorem ef_rm_ints1 (m : MethodId) (x0 : Addr) (x1 : Addr) : entryFrame m #[(.ref x0), (.ref x1)] 2 = mkF m 0 #[.val (.ref x0), .val (.ref x1)] [] := by first | (simp [entryFrame, mkF, argsToLocals, Value.category]; done) | rfl
set_option maxRecDepth 65536 in
set_option maxHeartbeats 40000000 in
theorem rm_ints1 (l : Launch) (Z : State) (a0 : Array Value) (hw : ∀ d ∈ tables_1, d.before a0 Z = true) (h0 : Heap) {lo : Nat} (a1 : Addr) (s1 : Addr) (ds : oDs) :
    oMet l Z h0 lo (⟨"com/example/tanglemark/tanglemark/datalog/Ints", "<init>", "(Ljava/lang/String;)V"⟩ : MethodName) prog_16_method_1_code 2 none [] ({ frames := 2, cells := 1, slots := 16, locals := 28 } : Room) #[(.ref a1), (.ref s1)] ((a1, oO cn0 [(fk0, .null), (fk1, (.int (0 : Int32))), (fk2, .null)]) :: ds) (fun (v : Option Value) (d : oDs) => (∃ (b : Addr), v = none ∧ ((b, oA .int [o0, o0, o0, o0, o0, o0, o0, o0, o0, o0, o0, o0, o0, o0, o0, o0]) :: (a1, oO cn0 [(fk0, (.ref s1)), (fk1, (.int (2147483639 : Int32))), (fk2, (.ref b))]) :: ds) = d)) := by
  refine oMet.of_body (plainFor_of_name pn_0) ?_
  intro p e s m below meth c T B hby hml hown hnm hret
  refine W_entry (ef_rm_ints1 m a1 s1) ?_
  refine W_aloadN B (hb hby d3_0) (pc' := 1) rfl rfl rfl ?_
  refine W_aloadN B (hb hby d3_1) (pc' := 2) rfl rfl rfl ?_
  refine W_ldcInt B hown (ow hw (i := 27) rfl) (hb hby d3_2) (pc' := 4) rfl ?_
  refine W_init B (y := (⟨"com/example/tanglemark/tanglemark/datalog/Ints", "<init>", "(Ljava/lang/String;I)V"⟩ : MethodName)) hown rfl (ow hw (i := 28) rfl) (ow hw (i := 29) rfl) (ow hw (i := 23) rfl) (ow hw (i := 30) rfl) (by decide) (a := a1) (rm_ints2 l Z a0 hw h0 a1 s1 (ds)) (lenOf pd_1 rfl) (hb hby d3_4) (pc' := 7) rfl (argsL := [(.ref s1), (.int (2147483639 : Int32))]) (rest := []) rfl (by rw [hml]; rfl) (W := 0) (oLe rfl) (by decide) (cells' := 1) rfl (slots' := 16) rfl ?_
  intro T v_ d_ q_ B
  obtain ⟨b2, rfl, rfl⟩ := q_
  show oWin p e below Z h0 _ _ (T.setTop (mkF m 7 #[.val (.ref a1), .val (.ref s1)] []))
  refine W_retV B hret (hb hby d3_7) (by decide) ?_
  exact ⟨_, rfl, rfl⟩
theorem d1_0 : decode prog_52_method_1_code 0 = .ok (.aload_n 0, 1) := by decide +kernel
theorem d1_1 : decode prog_52_method_1_code 1 = .ok (.invokespecial 1, 3) := by decide +kernel
theorem d1_4 : decode prog_52_method_1_code 4 = .ok (.aload_n 0, 1) := by decide +kernel
theorem d1_5 : decode prog_52_method_1_code 5 = .ok (.new 7, 3) := by decide +kernel
theorem d1_8 : decode prog_52_method_1_code 8 = .ok (.dup, 1) := by decide +kernel
theorem d1_9 : decode prog_52_method_1_code 9 = .ok (.aload_n 1, 1) := by decide +kernel
theorem d1_10 : decode prog_52_method_1_code 10 = .ok (.invokespecial 9, 3) := by decide +kernel
abbrev cn1 : String := "com/example/tanglemark/tanglemark/datalog/SharedSets"
abbrev fk3 : oFK := ("com/example/tanglemark/tanglemark/datalog/SharedSets", "values", "Lcom/example/tanglemark/tanglemark/datalog/Ints;")
abbrev fk4 : oFK := ("com/example/tanglemark/tanglemark/datalog/SharedSets", "from", "Lcom/example/tanglemark/tanglemark/datalog/Ints;")
abbrev fk5 : oFK := ("com/example/tanglemark/tanglemark/datalog/SharedSets", "base", "Lcom/example/tanglemark/tanglemark/datalog/Ints;")
abbrev fk6 : oFK := ("com/example/tanglemark/tanglemark/datalog/SharedSets", "size", "Lcom/example/tanglemark/tanglemark/datalog/Ints;")
abbrev fk7 : oFK := ("com/example/tanglemark/tanglemark/datalog/SharedSets", "parent", "Lcom/example/tanglemark/tanglemark/datalog/Ints;")
abbrev fk8 : oFK := ("com/example/tanglemark/tanglemark/datalog/SharedSets", "root", "Lcom/example/tanglemark/tanglemark/datalog/Ints;")
abbrev fk9 : oFK := ("com/example/tanglemark/tanglemark/datalog/SharedSets", "depth", "Lcom/example/tanglemark/tanglemark/datalog/Ints;")
theorem pd_2 : parseMethodDescriptor "(Ljava/lang/String;)V" = some ⟨[(.object "java/lang/String")], none⟩ := by decide +kernel
theorem d1_13 : decode prog_52_method_1_code 13 = .ok (.putfield 12, 3) := by decide +kernel
theorem d1_16 : decode prog_52_method_1_code 16 = .ok (.aload_n 0, 1) := by decide +kernel
theorem d1_17 : decode prog_52_method_1_code 17 = .ok (.new 7, 3) := by decide +kernel
theorem d1_20 : decode prog_52_method_1_code 20 = .ok (.dup, 1) := by decide +kernel
theorem d1_21 : decode prog_52_method_1_code 21 = .ok (.aload_n 1, 1) := by decide +kernel
theorem d1_22 : decode prog_52_method_1_code 22 = .ok (.invokespecial 9, 3) := by decide +kernel
theorem d1_25 : decode prog_52_method_1_code 25 = .ok (.putfield 18, 3) := by decide +kernel
theorem d1_28 : decode prog_52_method_1_code 28 = .ok (.aload_n 0, 1) := by decide +kernel
theorem d1_29 : decode prog_52_method_1_code 29 = .ok (.new 7, 3) := by decide +kernel
theorem d1_32 : decode prog_52_method_1_code 32 = .ok (.dup, 1) := by decide +kernel
theorem d1_33 : decode prog_52_method_1_code 33 = .ok (.aload_n 1, 1) := by decide +kernel
theorem d1_34 : decode prog_52_method_1_code 34 = .ok (.invokespecial 9, 3) := by decide +kernel
theorem d1_37 : decode prog_52_method_1_code 37 = .ok (.putfield 21, 3) := by decide +kernel
theorem d1_40 : decode prog_52_method_1_code 40 = .ok (.aload_n 0, 1) := by decide +kernel
theorem d1_41 : decode prog_52_method_1_code 41 = .ok (.new 7, 3) := by decide +kernel
theorem d1_44 : decode prog_52_method_1_code 44 = .ok (.dup, 1) := by decide +kernel
theorem d1_45 : decode prog_52_method_1_code 45 = .ok (.aload_n 1, 1) := by decide +kernel
theorem d1_46 : decode prog_52_method_1_code 46 = .ok (.invokespecial 9, 3) := by decide +kernel
theorem d1_49 : decode prog_52_method_1_code 49 = .ok (.putfield 24, 3) := by decide +kernel
theorem d1_52 : decode prog_52_method_1_code 52 = .ok (.aload_n 0, 1) := by decide +kernel
theorem d1_53 : decode prog_52_method_1_code 53 = .ok (.new 7, 3) := by decide +kernel
theorem d1_56 : decode prog_52_method_1_code 56 = .ok (.dup, 1) := by decide +kernel
theorem d1_57 : decode prog_52_method_1_code 57 = .ok (.aload_n 1, 1) := by decide +kernel
theorem d1_58 : decode prog_52_method_1_code 58 = .ok (.invokespecial 9, 3) := by decide +kernel
theorem d1_61 : decode prog_52_method_1_code 61 = .ok (.putfield 27, 3) := by decide +kernel
theorem d1_64 : decode prog_52_method_1_code 64 = .ok (.aload_n 0, 1) := by decide +kernel
theorem d1_65 : decode prog_52_method_1_code 65 = .ok (.new 7, 3) := by decide +kernel
theorem d1_68 : decode prog_52_method_1_code 68 = .ok (.dup, 1) := by decide +kernel
theorem d1_69 : decode prog_52_method_1_code 69 = .ok (.aload_n 1, 1) := by decide +kernel
theorem d1_70 : decode prog_52_method_1_code 70 = .ok (.invokespecial 9, 3) := by decide +kernel
theorem d1_73 : decode prog_52_method_1_code 73 = .ok (.putfield 30, 3) := by decide +kernel
theorem d1_76 : decode prog_52_method_1_code 76 = .ok (.aload_n 0, 1) := by decide +kernel
theorem d1_77 : decode prog_52_method_1_code 77 = .ok (.new 7, 3) := by decide +kernel
theorem d1_80 : decode prog_52_method_1_code 80 = .ok (.dup, 1) := by decide +kernel
theorem d1_81 : decode prog_52_method_1_code 81 = .ok (.aload_n 1, 1) := by decide +kernel
theorem d1_82 : decode prog_52_method_1_code 82 = .ok (.invokespecial 9, 3) := by decide +kernel
theorem d1_85 : decode prog_52_method_1_code 85 = .ok (.putfield 33, 3) := by decide +kernel
theorem d1_88 : decode prog_52_method_1_code 88 = .ok (.return_, 1) := by decide +kernel
theorem ef_rm_sets (m : MethodId) (x0 : Addr) (x1 : Addr) : entryFrame m #[(.ref x0), (.ref x1)] 2 = mkF m 0 #[.val (.ref x0), .val (.ref x1)] [] := by first | (simp [entryFrame, mkF, argsToLocals, Value.category]; done) | rfl
theorem pn_1 : plainName "com/example/tanglemark/tanglemark/datalog/SharedSets" = true := by first | (simp [plainName, overriddenIn]; done) | decide +kernel
set_option maxRecDepth 65536 in
set_option maxHeartbeats 40000000 in
theorem rm_sets (l : Launch) (Z : State) (a0 : Array Value) (hw : ∀ d ∈ tables_1, d.before a0 Z = true) (h0 : Heap) {lo : Nat} (a1 : Addr) (s1 : Addr) (ds : oDs) :
    oMet l Z h0 lo (⟨"com/example/tanglemark/tanglemark/datalog/SharedSets", "<init>", "(Ljava/lang/String;)V"⟩ : MethodName) prog_52_method_1_code 2 none [] ({ frames := 3, cells := 14, slots := 140, locals := 43 } : Room) #[(.ref a1), (.ref s1)] ((a1, oO cn1 [(fk3, .null), (fk4, .null), (fk5, .null), (fk6, .null), (fk7, .null), (fk8, .null), (fk9, .null)]) :: ds) (fun (v : Option Value) (d : oDs) => (∃ (e0 : Addr × oD) (e1 : Addr × oD) (e2 : Addr × oD) (e3 : Addr × oD) (e4 : Addr × oD) (e5 : Addr × oD) (e6 : Addr × oD) (e7 : Addr × oD) (e8 : Addr × oD) (e9 : Addr × oD) (e10 : Addr × oD) (e11 : Addr × oD) (e12 : Addr × oD) (e13 : Addr × oD) (e14 : Addr × oD), v = none ∧ (e0 :: e1 :: e2 :: e3 :: e4 :: e5 :: e6 :: e7 :: e8 :: e9 :: e10 :: e11 :: e12 :: e13 :: e14 :: ds) = d)) := by
  refine oMet.of_body (plainFor_of_name pn_1) ?_
  intro p e s m below meth c T B hby hml hown hnm hret
  refine W_entry (ef_rm_sets m a1 s1) ?_
  refine W_aloadN B (hb hby d1_0) (pc' := 1) rfl rfl rfl ?_
  refine W_initO B hown (ow hw (i := 18) rfl) (ow hw (i := 19) rfl) (ow hw (i := 20) rfl) (hb hby d1_1) (pc' := 4) rfl (by rw [hml]; rfl) (W := 0) (oLe rfl) (by decide) ?_
  intro T B
  refine W_aloadN B (hb hby d1_4) (pc' := 5) rfl rfl rfl ?_
  refine W_new B hown (ow hw (i := 21) rfl) (ow hw (i := 22) rfl) (ow hw (i := 23) rfl) (hb hby d1_5) (pc' := 8) rfl (by decide) (cells' := 1) rfl (slots' := 4) rfl (fs := [(fk0, .null), (fk1, (.int (0 : Int32))), (fk2, .null)]) (oAll_cons ⟨Or.inr (ow hw (i := 33) rfl), (.object "java/lang/String"), by decide, rfl⟩ (oAll_cons ⟨Or.inr (ow hw (i := 35) rfl), .int, by decide, rfl⟩ (oAll_cons ⟨Or.inl (ow hw (i := 41) rfl), (.array .int), by decide, rfl⟩ oAll_nil))) (by decide) ?_
  intro T b3 B
  refine W_dup B (hb hby d1_8) (pc' := 9) rfl rfl ?_
  refine W_aloadN B (hb hby d1_9) (pc' := 10) rfl rfl rfl ?_
  refine W_init B (y := (⟨"com/example/tanglemark/tanglemark/datalog/Ints", "<init>", "(Ljava/lang/String;)V"⟩ : MethodName)) hown rfl (ow hw (i := 24) rfl) (ow hw (i := 25) rfl) (ow hw (i := 23) rfl) (ow hw (i := 26) rfl) (by decide) (a := b3) (rm_ints1 l Z a0 hw h0 b3 s1 ((a1, oO cn1 [(fk3, .null), (fk4, .null), (fk5, .null), (fk6, .null), (fk7, .null), (fk8, .null), (fk9, .null)]) :: ds)) (lenOf pd_2 rfl) (hb hby d1_10) (pc' := 13) rfl (argsL := [(.ref s1)]) (rest := [(.ref b3), (.ref a1)]) rfl (by rw [hml]; rfl) (W := 2) (oLe rfl) (by decide) (cells' := 2) rfl (slots' := 20) rfl ?_
  intro T v_ d_ q_ B
  obtain ⟨b4, rfl, rfl⟩ := q_
  show oWin p e below Z h0 _ _ (T.setTop (mkF m 13 #[.val (.ref a1), .val (.ref s1)] [(.ref b3), (.ref a1)]))
  refine W_putfield B hown (host := "") (Or.inl (ow hw (i := 42) rfl)) Via.refl (hb hby d1_13) (pc' := 16) rfl (Or.inr ⟨(ow hw (i := 43) rfl), rfl, hnm⟩) (ow hw (i := 5) rfl) (ty := (.object "com/example/tanglemark/tanglemark/datalog/Ints")) (by decide) rfl rfl (j := 2) rfl (q := 0) rfl (ds' := ((b4, oA .int [o0, o0, o0, o0, o0, o0, o0, o0, o0, o0, o0, o0, o0, o0, o0, o0]) :: (b3, oO cn0 [(fk0, (.ref s1)), (fk1, (.int (2147483639 : Int32))), (fk2, (.ref b4))]) :: (a1, oO cn1 [(fk3, (.ref b3)), (fk4, .null), (fk5, .null), (fk6, .null), (fk7, .null), (fk8, .null), (fk9, .null)]) :: ds)) rfl ?_
  intro T B
  refine W_aloadN B (hb hby d1_16) (pc' := 17) rfl rfl rfl ?_
  refine W_new B hown (ow hw (i := 21) rfl) (ow hw (i := 22) rfl) (ow hw (i := 23) rfl) (hb hby d1_17) (pc' := 20) rfl (by decide) (cells' := 3) rfl (slots' := 24) rfl (fs := [(fk0, .null), (fk1, (.int (0 : Int32))), (fk2, .null)]) (oAll_cons ⟨Or.inr (ow hw (i := 33) rfl), (.object "java/lang/String"), by decide, rfl⟩ (oAll_cons ⟨Or.inr (ow hw (i := 35) rfl), .int, by decide, rfl⟩ (oAll_cons ⟨Or.inl (ow hw (i := 41) rfl), (.array .int), by decide, rfl⟩ oAll_nil))) (by decide) ?_
  intro T b5 B
  refine W_dup B (hb hby d1_20) (pc' := 21) rfl rfl ?_
  refine W_aloadN B (hb hby d1_21) (pc' := 22) rfl rfl rfl ?_
  refine W_init B (y := (⟨"com/example/tanglemark/tanglemark/datalog/Ints", "<init>", "(Ljava/lang/String;)V"⟩ : MethodName)) hown rfl (ow hw (i := 24) rfl) (ow hw (i := 25) rfl) (ow hw (i := 23) rfl) (ow hw (i := 26) rfl) (by decide) (a := b5) (rm_ints1 l Z a0 hw h0 b5 s1 ((b4, oA .int [o0, o0, o0, o0, o0, o0, o0, o0, o0, o0, o0, o0, o0, o0, o0, o0]) :: (b3, oO cn0 [(fk0, (.ref s1)), (fk1, (.int (2147483639 : Int32))), (fk2, (.ref b4))]) :: (a1, oO cn1 [(fk3, (.ref b3)), (fk4, .null), (fk5, .null), (fk6, .null), (fk7, .null), (fk8, .null), (fk9, .null)]) :: ds)) (lenOf pd_2 rfl) (hb hby d1_22) (pc' := 25) rfl (argsL := [(.ref s1)]) (rest := [(.ref b5), (.ref a1)]) rfl (by rw [hml]; rfl) (W := 2) (oLe rfl) (by decide) (cells' := 4) rfl (slots' := 40) rfl ?_
  intro T v_ d_ q_ B
  obtain ⟨b6, rfl, rfl⟩ := q_
  show oWin p e below Z h0 _ _ (T.setTop (mkF m 25 #[.val (.ref a1), .val (.ref s1)] [(.ref b5), (.ref a1)]))
  refine W_putfield B hown (host := "") (Or.inl (ow hw (i := 44) rfl)) Via.refl (hb hby d1_25) (pc' := 28) rfl (Or.inr ⟨(ow hw (i := 45) rfl), rfl, hnm⟩) (ow hw (i := 5) rfl) (ty := (.object "com/example/tanglemark/tanglemark/datalog/Ints")) (by decide) rfl rfl (j := 4) rfl (q := 1) rfl (ds' := ((b6, oA .int [o0, o0, o0, o0, o0, o0, o0, o0, o0, o0, o0, o0, o0, o0, o0, o0]) :: (b5, oO cn0 [(fk0, (.ref s1)), (fk1, (.int (2147483639 : Int32))), (fk2, (.ref b6))]) :: (b4, oA .int [o0, o0, o0, o0, o0, o0, o0, o0, o0, o0, o0, o0, o0, o0, o0, o0]) :: (b3, oO cn0 [(fk0, (.ref s1)), (fk1, (.int (2147483639 : Int32))), (fk2, (.ref b4))]) :: (a1, oO cn1 [(fk3, (.ref b3)), (fk4, (.ref b5)), (fk5, .null), (fk6, .null), (fk7, .null), (fk8, .null), (fk9, .null)]) :: ds)) rfl ?_
  intro T B
  refine W_aloadN B (hb hby d1_28) (pc' := 29) rfl rfl rfl ?_
  refine W_new B hown (ow hw (i := 21) rfl) (ow hw (i := 22) rfl) (ow hw (i := 23) rfl) (hb hby d1_29) (pc' := 32) rfl (by decide) (cells' := 5) rfl (slots' := 44) rfl (fs := [(fk0, .null), (fk1, (.int (0 : Int32))), (fk2, .null)]) (oAll_cons ⟨Or.inr (ow hw (i := 33) rfl), (.object "java/lang/String"), by decide, rfl⟩ (oAll_cons ⟨Or.inr (ow hw (i := 35) rfl), .int, by decide, rfl⟩ (oAll_cons ⟨Or.inl (ow hw (i := 41) rfl), (.array .int), by decide, rfl⟩ oAll_nil))) (by decide) ?_
  intro T b7 B
  refine W_dup B (hb hby d1_32) (pc' := 33) rfl rfl ?_
  refine W_aloadN B (hb hby d1_33) (pc' := 34) rfl rfl rfl ?_
  refine W_init B (y := (⟨"com/example/tanglemark/tanglemark/datalog/Ints", "<init>", "(Ljava/lang/String;)V"⟩ : MethodName)) hown rfl (ow hw (i := 24) rfl) (ow hw (i := 25) rfl) (ow hw (i := 23) rfl) (ow hw (i := 26) rfl) (by decide) (a := b7) (rm_ints1 l Z a0 hw h0 b7 s1 ((b6, oA .int [o0, o0, o0, o0, o0, o0, o0, o0, o0, o0, o0, o0, o0, o0, o0, o0]) :: (b5, oO cn0 [(fk0, (.ref s1)), (fk1, (.int (2147483639 : Int32))), (fk2, (.ref b6))]) :: (b4, oA .int [o0, o0, o0, o0, o0, o0, o0, o0, o0, o0, o0, o0, o0, o0, o0, o0]) :: (b3, oO cn0 [(fk0, (.ref s1)), (fk1, (.int (2147483639 : Int32))), (fk2, (.ref b4))]) :: (a1, oO cn1 [(fk3, (.ref b3)), (fk4, (.ref b5)), (fk5, .null), (fk6, .null), (fk7, .null), (fk8, .null), (fk9, .null)]) :: ds)) (lenOf pd_2 rfl) (hb hby d1_34) (pc' := 37) rfl (argsL := [(.ref s1)]) (rest := [(.ref b7), (.ref a1)]) rfl (by rw [hml]; rfl) (W := 2) (oLe rfl) (by decide) (cells' := 6) rfl (slots' := 60) rfl ?_
  intro T v_ d_ q_ B
  obtain ⟨b8, rfl, rfl⟩ := q_
  show oWin p e below Z h0 _ _ (T.setTop (mkF m 37 #[.val (.ref a1), .val (.ref s1)] [(.ref b7), (.ref a1)]))
  refine W_putfield B hown (host := "") (Or.inl (ow hw (i := 46) rfl)) Via.refl (hb hby d1_37) (pc' := 40) rfl (Or.inr ⟨(ow hw (i := 47) rfl), rfl, hnm⟩) (ow hw (i := 5) rfl) (ty := (.object "com/example/tanglemark/tanglemark/datalog/Ints")) (by decide) rfl rfl (j := 6) rfl (q := 2) rfl (ds' := ((b8, oA .int [o0, o0, o0, o0, o0, o0, o0, o0, o0, o0, o0, o0, o0, o0, o0, o0]) :: (b7, oO cn0 [(fk0, (.ref s1)), (fk1, (.int (2147483639 : Int32))), (fk2, (.ref b8))]) :: (b6, oA .int [o0, o0, o0, o0, o0, o0, o0, o0, o0, o0, o0, o0, o0, o0, o0, o0]) :: (b5, oO cn0 [(fk0, (.ref s1)), (fk1, (.int (2147483639 : Int32))), (fk2, (.ref b6))]) :: (b4, oA .int [o0, o0, o0, o0, o0, o0, o0, o0, o0, o0, o0, o0, o0, o0, o0, o0]) :: (b3, oO cn0 [(fk0, (.ref s1)), (fk1, (.int (2147483639 : Int32))), (fk2, (.ref b4))]) :: (a1, oO cn1 [(fk3, (.ref b3)), (fk4, (.ref b5)), (fk5, (.ref b7)), (fk6, .null), (fk7, .null), (fk8, .null), (fk9, .null)]) :: ds)) rfl ?_
  intro T B
  refine W_aloadN B (hb hby d1_40) (pc' := 41) rfl rfl rfl ?_
  refine W_new B hown (ow hw (i := 21) rfl) (ow hw (i := 22) rfl) (ow hw (i := 23) rfl) (hb hby d1_41) (pc' := 44) rfl (by decide) (cells' := 7) rfl (slots' := 64) rfl (fs := [(fk0, .null), (fk1, (.int (0 : Int32))), (fk2, .null)]) (oAll_cons ⟨Or.inr (ow hw (i := 33) rfl), (.object "java/lang/String"), by decide, rfl⟩ (oAll_cons ⟨Or.inr (ow hw (i := 35) rfl), .int, by decide, rfl⟩ (oAll_cons ⟨Or.inl (ow hw (i := 41) rfl), (.array .int), by decide, rfl⟩ oAll_nil))) (by decide) ?_
  intro T b9 B
  refine W_dup B (hb hby d1_44) (pc' := 45) rfl rfl ?_
  refine W_aloadN B (hb hby d1_45) (pc' := 46) rfl rfl rfl ?_
  refine W_init B (y := (⟨"com/example/tanglemark/tanglemark/datalog/Ints", "<init>", "(Ljava/lang/String;)V"⟩ : MethodName)) hown rfl (ow hw (i := 24) rfl) (ow hw (i := 25) rfl) (ow hw (i := 23) rfl) (ow hw (i := 26) rfl) (by decide) (a := b9) (rm_ints1 l Z a0 hw h0 b9 s1 ((b8, oA .int [o0, o0, o0, o0, o0, o0, o0, o0, o0, o0, o0, o0, o0, o0, o0, o0]) :: (b7, oO cn0 [(fk0, (.ref s1)), (fk1, (.int (2147483639 : Int32))), (fk2, (.ref b8))]) :: (b6, oA .int [o0, o0, o0, o0, o0, o0, o0, o0, o0, o0, o0, o0, o0, o0, o0, o0]) :: (b5, oO cn0 [(fk0, (.ref s1)), (fk1, (.int (2147483639 : Int32))), (fk2, (.ref b6))]) :: (b4, oA .int [o0, o0, o0, o0, o0, o0, o0, o0, o0, o0, o0, o0, o0, o0, o0, o0]) :: (b3, oO cn0 [(fk0, (.ref s1)), (fk1, (.int (2147483639 : Int32))), (fk2, (.ref b4))]) :: (a1, oO cn1 [(fk3, (.ref b3)), (fk4, (.ref b5)), (fk5, (.ref b7)), (fk6, .null), (fk7, .null), (fk8, .null), (fk9, .null)]) :: ds)) (lenOf pd_2 rfl) (hb hby d1_46) (pc' := 49) rfl (argsL := [(.ref s1)]) (rest := [(.ref b9), (.ref a1)]) rfl (by rw [hml]; rfl) (W := 2) (oLe rfl) (by decide) (cells' := 8) rfl (slots' := 80) rfl ?_
  intro T v_ d_ q_ B
  obtain ⟨b10, rfl, rfl⟩ := q_
  show oWin p e below Z h0 _ _ (T.setTop (mkF m 49 #[.val (.ref a1), .val (.ref s1)] [(.ref b9), (.ref a1)]))
  refine W_putfield B hown (host := "") (Or.inl (ow hw (i := 48) rfl)) Via.refl (hb hby d1_49) (pc' := 52) rfl (Or.inr ⟨(ow hw (i := 49) rfl), rfl, hnm⟩) (ow hw (i := 5) rfl) (ty := (.object "com/example/tanglemark/tanglemark/datalog/Ints")) (by decide) rfl rfl (j := 8) rfl (q := 3) rfl (ds' := ((b10, oA .int [o0, o0, o0, o0, o0, o0, o0, o0, o0, o0, o0, o0, o0, o0, o0, o0]) :: (b9, oO cn0 [(fk0, (.ref s1)), (fk1, (.int (2147483639 : Int32))), (fk2, (.ref b10))]) :: (b8, oA .int [o0, o0, o0, o0, o0, o0, o0, o0, o0, o0, o0, o0, o0, o0, o0, o0]) :: (b7, oO cn0 [(fk0, (.ref s1)), (fk1, (.int (2147483639 : Int32))), (fk2, (.ref b8))]) :: (b6, oA .int [o0, o0, o0, o0, o0, o0, o0, o0, o0, o0, o0, o0, o0, o0, o0, o0]) :: (b5, oO cn0 [(fk0, (.ref s1)), (fk1, (.int (2147483639 : Int32))), (fk2, (.ref b6))]) :: (b4, oA .int [o0, o0, o0, o0, o0, o0, o0, o0, o0, o0, o0, o0, o0, o0, o0, o0]) :: (b3, oO cn0 [(fk0, (.ref s1)), (fk1, (.int (2147483639 : Int32))), (fk2, (.ref b4))]) :: (a1, oO cn1 [(fk3, (.ref b3)), (fk4, (.ref b5)), (fk5, (.ref b7)), (fk6, (.ref b9)), (fk7, .null), (fk8, .null), (fk9, .null)]) :: ds)) rfl ?_
  intro T B
  refine W_aloadN B (hb hby d1_52) (pc' := 53) rfl rfl rfl ?_
  refine W_new B hown (ow hw (i := 21) rfl) (ow hw (i := 22) rfl) (ow hw (i := 23) rfl) (hb hby d1_53) (pc' := 56) rfl (by decide) (cells' := 9) rfl (slots' := 84) rfl (fs := [(fk0, .null), (fk1, (.int (0 : Int32))), (fk2, .null)]) (oAll_cons ⟨Or.inr (ow hw (i := 33) rfl), (.object "java/lang/String"), by decide, rfl⟩ (oAll_cons ⟨Or.inr (ow hw (i := 35) rfl), .int, by decide, rfl⟩ (oAll_cons ⟨Or.inl (ow hw (i := 41) rfl), (.array .int), by decide, rfl⟩ oAll_nil))) (by decide) ?_
  intro T b11 B
  refine W_dup B (hb hby d1_56) (pc' := 57) rfl rfl ?_
  refine W_aloadN B (hb hby d1_57) (pc' := 58) rfl rfl rfl ?_
  refine W_init B (y := (⟨"com/example/tanglemark/tanglemark/datalog/Ints", "<init>", "(Ljava/lang/String;)V"⟩ : MethodName)) hown rfl (ow hw (i := 24) rfl) (ow hw (i := 25) rfl) (ow hw (i := 23) rfl) (ow hw (i := 26) rfl) (by decide) (a := b11) (rm_ints1 l Z a0 hw h0 b11 s1 ((b10, oA .int [o0, o0, o0, o0, o0, o0, o0, o0, o0, o0, o0, o0, o0, o0, o0, o0]) :: (b9, oO cn0 [(fk0, (.ref s1)), (fk1, (.int (2147483639 : Int32))), (fk2, (.ref b10))]) :: (b8, oA .int [o0, o0, o0, o0, o0, o0, o0, o0, o0, o0, o0, o0, o0, o0, o0, o0]) :: (b7, oO cn0 [(fk0, (.ref s1)), (fk1, (.int (2147483639 : Int32))), (fk2, (.ref b8))]) :: (b6, oA .int [o0, o0, o0, o0, o0, o0, o0, o0, o0, o0, o0, o0, o0, o0, o0, o0]) :: (b5, oO cn0 [(fk0, (.ref s1)), (fk1, (.int (2147483639 : Int32))), (fk2, (.ref b6))]) :: (b4, oA .int [o0, o0, o0, o0, o0, o0, o0, o0, o0, o0, o0, o0, o0, o0, o0, o0]) :: (b3, oO cn0 [(fk0, (.ref s1)), (fk1, (.int (2147483639 : Int32))), (fk2, (.ref b4))]) :: (a1, oO cn1 [(fk3, (.ref b3)), (fk4, (.ref b5)), (fk5, (.ref b7)), (fk6, (.ref b9)), (fk7, .null), (fk8, .null), (fk9, .null)]) :: ds)) (lenOf pd_2 rfl) (hb hby d1_58) (pc' := 61) rfl (argsL := [(.ref s1)]) (rest := [(.ref b11), (.ref a1)]) rfl (by rw [hml]; rfl) (W := 2) (oLe rfl) (by decide) (cells' := 10) rfl (slots' := 100) rfl ?_
  intro T v_ d_ q_ B
  obtain ⟨b12, rfl, rfl⟩ := q_
  show oWin p e below Z h0 _ _ (T.setTop (mkF m 61 #[.val (.ref a1), .val (.ref s1)] [(.ref b11), (.ref a1)]))
  refine W_putfield B hown (host := "") (Or.inl (ow hw (i := 50) rfl)) Via.refl (hb hby d1_61) (pc' := 64) rfl (Or.inr ⟨(ow hw (i := 51) rfl), rfl, hnm⟩) (ow hw (i := 5) rfl) (ty := (.object "com/example/tanglemark/tanglemark/datalog/Ints")) (by decide) rfl rfl (j := 10) rfl (q := 4) rfl (ds' := ((b12, oA .int [o0, o0, o0, o0, o0, o0, o0, o0, o0, o0, o0, o0, o0, o0, o0, o0]) :: (b11, oO cn0 [(fk0, (.ref s1)), (fk1, (.int (2147483639 : Int32))), (fk2, (.ref b12))]) :: (b10, oA .int [o0, o0, o0, o0, o0, o0, o0, o0, o0, o0, o0, o0, o0, o0, o0, o0]) :: (b9, oO cn0 [(fk0, (.ref s1)), (fk1, (.int (2147483639 : Int32))), (fk2, (.ref b10))]) :: (b8, oA .int [o0, o0, o0, o0, o0, o0, o0, o0, o0, o0, o0, o0, o0, o0, o0, o0]) :: (b7, oO cn0 [(fk0, (.ref s1)), (fk1, (.int (2147483639 : Int32))), (fk2, (.ref b8))]) :: (b6, oA .int [o0, o0, o0, o0, o0, o0, o0, o0, o0, o0, o0, o0, o0, o0, o0, o0]) :: (b5, oO cn0 [(fk0, (.ref s1)), (fk1, (.int (2147483639 : Int32))), (fk2, (.ref b6))]) :: (b4, oA .int [o0, o0, o0, o0, o0, o0, o0, o0, o0, o0, o0, o0, o0, o0, o0, o0]) :: (b3, oO cn0 [(fk0, (.ref s1)), (fk1, (.int (2147483639 : Int32))), (fk2, (.ref b4))]) :: (a1, oO cn1 [(fk3, (.ref b3)), (fk4, (.ref b5)), (fk5, (.ref b7)), (fk6, (.ref b9)), (fk7, (.ref b11)), (fk8, .null), (fk9, .null)]) :: ds)) rfl ?_
  intro T B
  refine W_aloadN B (hb hby d1_64) (pc' := 65) rfl rfl rfl ?_
  refine W_new B hown (ow hw (i := 21) rfl) (ow hw (i := 22) rfl) (ow hw (i := 23) rfl) (hb hby d1_65) (pc' := 68) rfl (by decide) (cells' := 11) rfl (slots' := 104) rfl (fs := [(fk0, .null), (fk1, (.int (0 : Int32))), (fk2, .null)]) (oAll_cons ⟨Or.inr (ow hw (i := 33) rfl), (.object "java/lang/String"), by decide, rfl⟩ (oAll_cons ⟨Or.inr (ow hw (i := 35) rfl), .int, by decide, rfl⟩ (oAll_cons ⟨Or.inl (ow hw (i := 41) rfl), (.array .int), by decide, rfl⟩ oAll_nil))) (by decide) ?_
  intro T b13 B
  refine W_dup B (hb hby d1_68) (pc' := 69) rfl rfl ?_
  refine W_aloadN B (hb hby d1_69) (pc' := 70) rfl rfl rfl ?_
  refine W_init B (y := (⟨"com/example/tanglemark/tanglemark/datalog/Ints", "<init>", "(Ljava/lang/String;)V"⟩ : MethodName)) hown rfl (ow hw (i := 24) rfl) (ow hw (i := 25) rfl) (ow hw (i := 23) rfl) (ow hw (i := 26) rfl) (by decide) (a := b13) (rm_ints1 l Z a0 hw h0 b13 s1 ((b12, oA .int [o0, o0, o0, o0, o0, o0, o0, o0, o0, o0, o0, o0, o0, o0, o0, o0]) :: (b11, oO cn0 [(fk0, (.ref s1)), (fk1, (.int (2147483639 : Int32))), (fk2, (.ref b12))]) :: (b10, oA .int [o0, o0, o0, o0, o0, o0, o0, o0, o0, o0, o0, o0, o0, o0, o0, o0]) :: (b9, oO cn0 [(fk0, (.ref s1)), (fk1, (.int (2147483639 : Int32))), (fk2, (.ref b10))]) :: (b8, oA .int [o0, o0, o0, o0, o0, o0, o0, o0, o0, o0, o0, o0, o0, o0, o0, o0]) :: (b7, oO cn0 [(fk0, (.ref s1)), (fk1, (.int (2147483639 : Int32))), (fk2, (.ref b8))]) :: (b6, oA .int [o0, o0, o0, o0, o0, o0, o0, o0, o0, o0, o0, o0, o0, o0, o0, o0]) :: (b5, oO cn0 [(fk0, (.ref s1)), (fk1, (.int (2147483639 : Int32))), (fk2, (.ref b6))]) :: (b4, oA .int [o0, o0, o0, o0, o0, o0, o0, o0, o0, o0, o0, o0, o0, o0, o0, o0]) :: (b3, oO cn0 [(fk0, (.ref s1)), (fk1, (.int (2147483639 : Int32))), (fk2, (.ref b4))]) :: (a1, oO cn1 [(fk3, (.ref b3)), (fk4, (.ref b5)), (fk5, (.ref b7)), (fk6, (.ref b9)), (fk7, (.ref b11)), (fk8, .null), (fk9, .null)]) :: ds)) (lenOf pd_2 rfl) (hb hby d1_70) (pc' := 73) rfl (argsL := [(.ref s1)]) (rest := [(.ref b13), (.ref a1)]) rfl (by rw [hml]; rfl) (W := 2) (oLe rfl) (by decide) (cells' := 12) rfl (slots' := 120) rfl ?_
  intro T v_ d_ q_ B
  obtain ⟨b14, rfl, rfl⟩ := q_
  show oWin p e below Z h0 _ _ (T.setTop (mkF m 73 #[.val (.ref a1), .val (.ref s1)] [(.ref b13), (.ref a1)]))
  refine W_putfield B hown (host := "") (Or.inl (ow hw (i := 52) rfl)) Via.refl (hb hby d1_73) (pc' := 76) rfl (Or.inr ⟨(ow hw (i := 53) rfl), rfl, hnm⟩) (ow hw (i := 5) rfl) (ty := (.object "com/example/tanglemark/tanglemark/datalog/Ints")) (by decide) rfl rfl (j := 12) rfl (q := 5) rfl (ds' := ((b14, oA .int [o0, o0, o0, o0, o0, o0, o0, o0, o0, o0, o0, o0, o0, o0, o0, o0]) :: (b13, oO cn0 [(fk0, (.ref s1)), (fk1, (.int (2147483639 : Int32))), (fk2, (.ref b14))]) :: (b12, oA .int [o0, o0, o0, o0, o0, o0, o0, o0, o0, o0, o0, o0, o0, o0, o0, o0]) :: (b11, oO cn0 [(fk0, (.ref s1)), (fk1, (.int (2147483639 : Int32))), (fk2, (.ref b12))]) :: (b10, oA .int [o0, o0, o0, o0, o0, o0, o0, o0, o0, o0, o0, o0, o0, o0, o0, o0]) :: (b9, oO cn0 [(fk0, (.ref s1)), (fk1, (.int (2147483639 : Int32))), (fk2, (.ref b10))]) :: (b8, oA .int [o0, o0, o0, o0, o0, o0, o0, o0, o0, o0, o0, o0, o0, o0, o0, o0]) :: (b7, oO cn0 [(fk0, (.ref s1)), (fk1, (.int (2147483639 : Int32))), (fk2, (.ref b8))]) :: (b6, oA .int [o0, o0, o0, o0, o0, o0, o0, o0, o0, o0, o0, o0, o0, o0, o0, o0]) :: (b5, oO cn0 [(fk0, (.ref s1)), (fk1, (.int (2147483639 : Int32))), (fk2, (.ref b6))]) :: (b4, oA .int [o0, o0, o0, o0, o0, o0, o0, o0, o0, o0, o0, o0, o0, o0, o0, o0]) :: (b3, oO cn0 [(fk0, (.ref s1)), (fk1, (.int (2147483639 : Int32))), (fk2, (.ref b4))]) :: (a1, oO cn1 [(fk3, (.ref b3)), (fk4, (.ref b5)), (fk5, (.ref b7)), (fk6, (.ref b9)), (fk7, (.ref b11)), (fk8, (.ref b13)), (fk9, .null)]) :: ds)) rfl ?_
  intro T B
  refine W_aloadN B (hb hby d1_76) (pc' := 77) rfl rfl rfl ?_
  refine W_new B hown (ow hw (i := 21) rfl) (ow hw (i := 22) rfl) (ow hw (i := 23) rfl) (hb hby d1_77) (pc' := 80) rfl (by decide) (cells' := 13) rfl (slots' := 124) rfl (fs := [(fk0, .null), (fk1, (.int (0 : Int32))), (fk2, .null)]) (oAll_cons ⟨Or.inr (ow hw (i := 33) rfl), (.object "java/lang/String"), by decide, rfl⟩ (oAll_cons ⟨Or.inr (ow hw (i := 35) rfl), .int, by decide, rfl⟩ (oAll_cons ⟨Or.inl (ow hw (i := 41) rfl), (.array .int), by decide, rfl⟩ oAll_nil))) (by decide) ?_
  intro T b15 B
  refine W_dup B (hb hby d1_80) (pc' := 81) rfl rfl ?_
  refine W_aloadN B (hb hby d1_81) (pc' := 82) rfl rfl rfl ?_
  refine W_init B (y := (⟨"com/example/tanglemark/tanglemark/datalog/Ints", "<init>", "(Ljava/lang/String;)V"⟩ : MethodName)) hown rfl (ow hw (i := 24) rfl) (ow hw (i := 25) rfl) (ow hw (i := 23) rfl) (ow hw (i := 26) rfl) (by decide) (a := b15) (rm_ints1 l Z a0 hw h0 b15 s1 ((b14, oA .int [o0, o0, o0, o0, o0, o0, o0, o0, o0, o0, o0, o0, o0, o0, o0, o0]) :: (b13, oO cn0 [(fk0, (.ref s1)), (fk1, (.int (2147483639 : Int32))), (fk2, (.ref b14))]) :: (b12, oA .int [o0, o0, o0, o0, o0, o0, o0, o0, o0, o0, o0, o0, o0, o0, o0, o0]) :: (b11, oO cn0 [(fk0, (.ref s1)), (fk1, (.int (2147483639 : Int32))), (fk2, (.ref b12))]) :: (b10, oA .int [o0, o0, o0, o0, o0, o0, o0, o0, o0, o0, o0, o0, o0, o0, o0, o0]) :: (b9, oO cn0 [(fk0, (.ref s1)), (fk1, (.int (2147483639 : Int32))), (fk2, (.ref b10))]) :: (b8, oA .int [o0, o0, o0, o0, o0, o0, o0, o0, o0, o0, o0, o0, o0, o0, o0, o0]) :: (b7, oO cn0 [(fk0, (.ref s1)), (fk1, (.int (2147483639 : Int32))), (fk2, (.ref b8))]) :: (b6, oA .int [o0, o0, o0, o0, o0, o0, o0, o0, o0, o0, o0, o0, o0, o0, o0, o0]) :: (b5, oO cn0 [(fk0, (.ref s1)), (fk1, (.int (2147483639 : Int32))), (fk2, (.ref b6))]) :: (b4, oA .int [o0, o0, o0, o0, o0, o0, o0, o0, o0, o0, o0, o0, o0, o0, o0, o0]) :: (b3, oO cn0 [(fk0, (.ref s1)), (fk1, (.int (2147483639 : Int32))), (fk2, (.ref b4))]) :: (a1, oO cn1 [(fk3, (.ref b3)), (fk4, (.ref b5)), (fk5, (.ref b7)), (fk6, (.ref b9)), (fk7, (.ref b11)), (fk8, (.ref b13)), (fk9, .null)]) :: ds)) (lenOf pd_2 rfl) (hb hby d1_82) (pc' := 85) rfl (argsL := [(.ref s1)]) (rest := [(.ref b15), (.ref a1)]) rfl (by rw [hml]; rfl) (W := 2) (oLe rfl) (by decide) (cells' := 14) rfl (slots' := 140) rfl ?_
  intro T v_ d_ q_ B
  obtain ⟨b16, rfl, rfl⟩ := q_
  show oWin p e below Z h0 _ _ (T.setTop (mkF m 85 #[.val (.ref a1), .val (.ref s1)] [(.ref b15), (.ref a1)]))
  refine W_putfield B hown (host := "") (Or.inl (ow hw (i := 54) rfl)) Via.refl (hb hby d1_85) (pc' := 88) rfl (Or.inr ⟨(ow hw (i := 55) rfl), rfl, hnm⟩) (ow hw (i := 5) rfl) (ty := (.object "com/example/tanglemark/tanglemark/datalog/Ints")) (by decide) rfl rfl (j := 14) rfl (q := 6) rfl (ds' := ((b16, oA .int [o0, o0, o0, o0, o0, o0, o0, o0, o0, o0, o0, o0, o0, o0, o0, o0]) :: (b15, oO cn0 [(fk0, (.ref s1)), (fk1, (.int (2147483639 : Int32))), (fk2, (.ref b16))]) :: (b14, oA .int [o0, o0, o0, o0, o0, o0, o0, o0, o0, o0, o0, o0, o0, o0, o0, o0]) :: (b13, oO cn0 [(fk0, (.ref s1)), (fk1, (.int (2147483639 : Int32))), (fk2, (.ref b14))]) :: (b12, oA .int [o0, o0, o0, o0, o0, o0, o0, o0, o0, o0, o0, o0, o0, o0, o0, o0]) :: (b11, oO cn0 [(fk0, (.ref s1)), (fk1, (.int (2147483639 : Int32))), (fk2, (.ref b12))]) :: (b10, oA .int [o0, o0, o0, o0, o0, o0, o0, o0, o0, o0, o0, o0, o0, o0, o0, o0]) :: (b9, oO cn0 [(fk0, (.ref s1)), (fk1, (.int (2147483639 : Int32))), (fk2, (.ref b10))]) :: (b8, oA .int [o0, o0, o0, o0, o0, o0, o0, o0, o0, o0, o0, o0, o0, o0, o0, o0]) :: (b7, oO cn0 [(fk0, (.ref s1)), (fk1, (.int (2147483639 : Int32))), (fk2, (.ref b8))]) :: (b6, oA .int [o0, o0, o0, o0, o0, o0, o0, o0, o0, o0, o0, o0, o0, o0, o0, o0]) :: (b5, oO cn0 [(fk0, (.ref s1)), (fk1, (.int (2147483639 : Int32))), (fk2, (.ref b6))]) :: (b4, oA .int [o0, o0, o0, o0, o0, o0, o0, o0, o0, o0, o0, o0, o0, o0, o0, o0]) :: (b3, oO cn0 [(fk0, (.ref s1)), (fk1, (.int (2147483639 : Int32))), (fk2, (.ref b4))]) :: (a1, oO cn1 [(fk3, (.ref b3)), (fk4, (.ref b5)), (fk5, (.ref b7)), (fk6, (.ref b9)), (fk7, (.ref b11)), (fk8, (.ref b13)), (fk9, (.ref b15))]) :: ds)) rfl ?_
  intro T B
  refine W_retV B hret (hb hby d1_88) (by decide) ?_
  exact ⟨_, _, _, _, _, _, _, _, _, _, _, _, _, _, _, rfl, rfl⟩
theorem d7_0 : decode prog_14_method_1_code 0 = .ok (.aload_n 0, 1) := by decide +kernel
theorem d7_1 : decode prog_14_method_1_code 1 = .ok (.invokespecial 1, 3) := by decide +kernel
theorem d7_4 : decode prog_14_method_1_code 4 = .ok (.aload_n 0, 1) := by decide +kernel
theorem d7_5 : decode prog_14_method_1_code 5 = .ok (.iload_n 1, 1) := by decide +kernel
theorem d7_6 : decode prog_14_method_1_code 6 = .ok (.putfield 7, 3) := by decide +kernel
abbrev cn2 : String := "com/example/tanglemark/tanglemark/datalog/FactoredRows$Stretch"
abbrev fk10 : oFK := ("com/example/tanglemark/tanglemark/datalog/FactoredRows$Stretch", "key", "I")
abbrev fk11 : oFK := ("com/example/tanglemark/tanglemark/datalog/FactoredRows$Stretch", "first", "I")
abbrev fk12 : oFK := ("com/example/tanglemark/tanglemark/datalog/FactoredRows$Stretch", "end", "I")
abbrev fk13 : oFK := ("com/example/tanglemark/tanglemark/datalog/FactoredRows$Stretch", "from", "I")
theorem d7_9 : decode prog_14_method_1_code 9 = .ok (.aload_n 0, 1) := by decide +kernel
theorem d7_10 : decode prog_14_method_1_code 10 = .ok (.iload_n 2, 1) := by decide +kernel
theorem d7_11 : decode prog_14_method_1_code 11 = .ok (.putfield 13, 3) := by decide +kernel
theorem d7_14 : decode prog_14_method_1_code 14 = .ok (.aload_n 0, 1) := by decide +kernel
theorem d7_15 : decode prog_14_method_1_code 15 = .ok (.iload_n 3, 1) := by decide +kernel
theorem d7_16 : decode prog_14_method_1_code 16 = .ok (.putfield 16, 3) := by decide +kernel
theorem d7_19 : decode prog_14_method_1_code 19 = .ok (.aload_n 0, 1) := by decide +kernel
theorem d7_20 : decode prog_14_method_1_code 20 = .ok (.iload 4, 2) := by decide +kernel
theorem d7_22 : decode prog_14_method_1_code 22 = .ok (.putfield 19, 3) := by decide +kernel
theorem d7_25 : decode prog_14_method_1_code 25 = .ok (.return_, 1) := by decide +kernel
theorem ef_rm_st (m : MethodId) (x0 : Addr) (x1 : Int32) (x2 : Int32) (x3 : Int32) (x4 : Int32) : entryFrame m #[(.ref x0), (.int x1), (.int x2), (.int x3), (.int x4)] 5 = mkF m 0 #[.val (.ref x0), .val (.int x1), .val (.int x2), .val (.int x3), .val (.int x4)] [] := by first | (simp [entryFrame, mkF, argsToLocals, Value.category]; done) | rfl
theorem pn_2 : plainName "com/example/tanglemark/tanglemark/datalog/FactoredRows$Stretch" = true := by first | (simp [plainName, overriddenIn]; done) | decide +kernel
set_option maxRecDepth 65536 in
set_option maxHeartbeats 40000000 in
theorem rm_st (l : Launch) (Z : State) (a0 : Array Value) (hw : ∀ d ∈ tables_1, d.before a0 Z = true) (h0 : Heap) {lo : Nat} (a1 : Addr) (x0 : Int32) (x1 : Int32) (x2 : Int32) (x3 : Int32) (ds : oDs) :
    oMet l Z h0 lo (⟨"com/example/tanglemark/tanglemark/datalog/FactoredRows$Stretch", "<init>", "(IIII)V"⟩ : MethodName) prog_14_method_1_code 5 none [] ({ frames := 1, cells := 0, slots := 0, locals := 12 } : Room) #[(.ref a1), (.int x0), (.int x1), (.int x2), (.int x3)] ((a1, oO cn2 [(fk10, (.int (0 : Int32))), (fk11, (.int (0 : Int32))), (fk12, (.int (0 : Int32))), (fk13, (.int (0 : Int32)))]) :: ds) (fun (v : Option Value) (d : oDs) => (v = none ∧ ((a1, oO cn2 [(fk10, (.int x0)), (fk11, (.int x1)), (fk12, (.int x2)), (fk13, (.int x3))]) :: ds) = d)) := by
  refine oMet.of_body (plainFor_of_name pn_2) ?_
  intro p e s m below meth c T B hby hml hown hnm hret
  refine W_entry (ef_rm_st m a1 x0 x1 x2 x3) ?_
  refine W_aloadN B (hb hby d7_0) (pc' := 1) rfl rfl rfl ?_
  refine W_initO B hown (ow hw (i := 66) rfl) (ow hw (i := 19) rfl) (ow hw (i := 20) rfl) (hb hby d7_1) (pc' := 4) rfl (by rw [hml]; rfl) (W := 0) (oLe rfl) (by decide) ?_
  intro T B
  refine W_aloadN B (hb hby d7_4) (pc' := 5) rfl rfl rfl ?_
  refine W_iloadN B (hb hby d7_5) (pc' := 6) rfl rfl ?_
  refine W_putfield B hown (host := "") (Or.inl (ow hw (i := 67) rfl)) Via.refl (hb hby d7_6) (pc' := 9) rfl (Or.inr ⟨(ow hw (i := 68) rfl), rfl, hnm⟩) (ow hw (i := 61) rfl) (ty := .int) (by decide) rfl rfl (j := 0) rfl (q := 0) rfl (ds' := ((a1, oO cn2 [(fk10, (.int x0)), (fk11, (.int (0 : Int32))), (fk12, (.int (0 : Int32))), (fk13, (.int (0 : Int32)))]) :: ds)) rfl ?_
  intro T B
  refine W_aloadN B (hb hby d7_9) (pc' := 10) rfl rfl rfl ?_
  refine W_iloadN B (hb hby d7_10) (pc' := 11) rfl rfl ?_
  refine W_putfield B hown (host := "") (Or.inl (ow hw (i := 69) rfl)) Via.refl (hb hby d7_11) (pc' := 14) rfl (Or.inr ⟨(ow hw (i := 70) rfl), rfl, hnm⟩) (ow hw (i := 61) rfl) (ty := .int) (by decide) rfl rfl (j := 0) rfl (q := 1) rfl (ds' := ((a1, oO cn2 [(fk10, (.int x0)), (fk11, (.int x1)), (fk12, (.int (0 : Int32))), (fk13, (.int (0 : Int32)))]) :: ds)) rfl ?_
  intro T B
  refine W_aloadN B (hb hby d7_14) (pc' := 15) rfl rfl rfl ?_
  refine W_iloadN B (hb hby d7_15) (pc' := 16) rfl rfl ?_
  refine W_putfield B hown (host := "") (Or.inl (ow hw (i := 71) rfl)) Via.refl (hb hby d7_16) (pc' := 19) rfl (Or.inr ⟨(ow hw (i := 72) rfl), rfl, hnm⟩) (ow hw (i := 61) rfl) (ty := .int) (by decide) rfl rfl (j := 0) rfl (q := 2) rfl (ds' := ((a1, oO cn2 [(fk10, (.int x0)), (fk11, (.int x1)), (fk12, (.int x2)), (fk13, (.int (0 : Int32)))]) :: ds)) rfl ?_
  intro T B
  refine W_aloadN B (hb hby d7_19) (pc' := 20) rfl rfl rfl ?_
  refine W_iload B (hb hby d7_20) (pc' := 22) rfl rfl ?_
  refine W_putfield B hown (host := "") (Or.inl (ow hw (i := 73) rfl)) Via.refl (hb hby d7_22) (pc' := 25) rfl (Or.inr ⟨(ow hw (i := 74) rfl), rfl, hnm⟩) (ow hw (i := 61) rfl) (ty := .int) (by decide) rfl rfl (j := 0) rfl (q := 3) rfl (ds' := ((a1, oO cn2 [(fk10, (.int x0)), (fk11, (.int x1)), (fk12, (.int x2)), (fk13, (.int x3))]) :: ds)) rfl ?_
  intro T B
  refine W_retV B hret (hb hby d7_25) (by decide) ?_
  exact ⟨rfl, rfl⟩
theorem d6_0 : decode prog_13_method_1_code 0 = .ok (.aload_n 0, 1) := by decide +kernel
theorem d6_1 : decode prog_13_method_1_code 1 = .ok (.invokespecial 1, 3) := by decide +kernel
theorem d6_4 : decode prog_13_method_1_code 4 = .ok (.aload_n 0, 1) := by decide +kernel
theorem d6_5 : decode prog_13_method_1_code 5 = .ok (.new 7, 3) := by decide +kernel
theorem d6_8 : decode prog_13_method_1_code 8 = .ok (.dup, 1) := by decide +kernel
theorem d6_9 : decode prog_13_method_1_code 9 = .ok (.iconst 0, 1) := by decide +kernel
theorem d6_10 : decode prog_13_method_1_code 10 = .ok (.iconst 0, 1) := by decide +kernel
theorem d6_11 : decode prog_13_method_1_code 11 = .ok (.iconst 0, 1) := by decide +kernel
theorem d6_12 : decode prog_13_method_1_code 12 = .ok (.iconst 0, 1) := by decide +kernel
theorem d6_13 : decode prog_13_method_1_code 13 = .ok (.invokespecial 9, 3) := by decide +kernel
abbrev cn3 : String := "com/example/tanglemark/tanglemark/datalog/FactoredRows"
abbrev fk14 : oFK := ("com/example/tanglemark/tanglemark/datalog/FactoredRows", "last", "Lcom/example/tanglemark/tanglemark/datalog/FactoredRows$Stretch;")
abbrev fk15 : oFK := ("com/example/tanglemark/tanglemark/datalog/FactoredRows", "arity", "I")
abbrev fk16 : oFK := ("com/example/tanglemark/tanglemark/datalog/FactoredRows", "keyColumns", "[I")
abbrev fk17 : oFK := ("com/example/tanglemark/tanglemark/datalog/FactoredRows", "place", "[I")
abbrev fk18 : oFK := ("com/example/tanglemark/tanglemark/datalog/FactoredRows", "carriedColumns", "I")
abbrev fk19 : oFK := ("com/example/tanglemark/tanglemark/datalog/FactoredRows", "keyValues", "[I")
abbrev fk20 : oFK := ("com/example/tanglemark/tanglemark/datalog/FactoredRows", "carriedValues", "[I")
abbrev fk21 : oFK := ("com/example/tanglemark/tanglemark/datalog/FactoredRows", "sets", "Lcom/example/tanglemark/tanglemark/datalog/SharedSets;")
abbrev fk22 : oFK := ("com/example/tanglemark/tanglemark/datalog/FactoredRows", "setOf", "[I")
abbrev fk23 : oFK := ("com/example/tanglemark/tanglemark/datalog/FactoredRows", "start", "[I")
abbrev fk24 : oFK := ("com/example/tanglemark/tanglemark/datalog/FactoredRows", "blockKey", "[I")
theorem pd_3 : parseMethodDescriptor "(IIII)V" = some ⟨[.int, .int, .int, .int], none⟩ := by decide +kernel
theorem d6_16 : decode prog_13_method_1_code 16 = .ok (.putfield 12, 3) := by decide +kernel
theorem d6_19 : decode prog_13_method_1_code 19 = .ok (.aload_n 0, 1) := by decide +kernel
theorem d6_20 : decode prog_13_method_1_code 20 = .ok (.iload_n 1, 1) := by decide +kernel
theorem d6_21 : decode prog_13_method_1_code 21 = .ok (.putfield 18, 3) := by decide +kernel
theorem d6_24 : decode prog_13_method_1_code 24 = .ok (.aload_n 0, 1) := by decide +kernel
theorem d6_25 : decode prog_13_method_1_code 25 = .ok (.aload_n 2, 1) := by decide +kernel
theorem d6_26 : decode prog_13_method_1_code 26 = .ok (.putfield 22, 3) := by decide +kernel
theorem d6_29 : decode prog_13_method_1_code 29 = .ok (.aload_n 0, 1) := by decide +kernel
theorem d6_30 : decode prog_13_method_1_code 30 = .ok (.iload_n 1, 1) := by decide +kernel
theorem d6_31 : decode prog_13_method_1_code 31 = .ok (.newarray .int, 2) := by decide +kernel
theorem d6_33 : decode prog_13_method_1_code 33 = .ok (.putfield 26, 3) := by decide +kernel
theorem d6_36 : decode prog_13_method_1_code 36 = .ok (.iconst 0, 1) := by decide +kernel
theorem d6_37 : decode prog_13_method_1_code 37 = .ok (.istore 8, 2) := by decide +kernel
theorem d6_39 : decode prog_13_method_1_code 39 = .ok (.iconst 0, 1) := by decide +kernel
theorem d6_40 : decode prog_13_method_1_code 40 = .ok (.istore 9, 2) := by decide +kernel
theorem d6_42 : decode prog_13_method_1_code 42 = .ok (.iconst 0, 1) := by decide +kernel
theorem d6_43 : decode prog_13_method_1_code 43 = .ok (.istore 10, 2) := by decide +kernel
theorem d6_45 : decode prog_13_method_1_code 45 = .ok (.iload 9, 2) := by decide +kernel
theorem d6_47 : decode prog_13_method_1_code 47 = .ok (.iload_n 1, 1) := by decide +kernel
theorem d6_48 : decode prog_13_method_1_code 48 = .ok (.if_icmp .ge 54, 3) := by decide +kernel
theorem d6_51 : decode prog_13_method_1_code 51 = .ok (.iload 10, 2) := by decide +kernel
theorem d6_53 : decode prog_13_method_1_code 53 = .ok (.aload_n 2, 1) := by decide +kernel
theorem d6_54 : decode prog_13_method_1_code 54 = .ok (.arraylength, 1) := by decide +kernel
theorem d6_55 : decode prog_13_method_1_code 55 = .ok (.if_icmp .ge 27, 3) := by decide +kernel
theorem d6_82 : decode prog_13_method_1_code 82 = .ok (.aload_n 0, 1) := by decide +kernel
theorem d6_83 : decode prog_13_method_1_code 83 = .ok (.getfield 26, 3) := by decide +kernel
theorem d6_86 : decode prog_13_method_1_code 86 = .ok (.iload 9, 2) := by decide +kernel
theorem d6_88 : decode prog_13_method_1_code 88 = .ok (.iconst (-1), 1) := by decide +kernel
theorem d6_89 : decode prog_13_method_1_code 89 = .ok (.iload 8, 2) := by decide +kernel
theorem d6_91 : decode prog_13_method_1_code 91 = .ok (.iinc 8 1, 3) := by decide +kernel
theorem d6_94 : decode prog_13_method_1_code 94 = .ok (.isub, 1) := by decide +kernel
theorem d6_95 : decode prog_13_method_1_code 95 = .ok (.iastore, 1) := by decide +kernel
theorem d6_96 : decode prog_13_method_1_code 96 = .ok (.iinc 9 1, 3) := by decide +kernel
theorem d6_99 : decode prog_13_method_1_code 99 = .ok (.goto (-54), 3) := by decide +kernel
theorem d6_102 : decode prog_13_method_1_code 102 = .ok (.aload_n 0, 1) := by decide +kernel
theorem d6_103 : decode prog_13_method_1_code 103 = .ok (.iload 8, 2) := by decide +kernel
theorem d6_105 : decode prog_13_method_1_code 105 = .ok (.putfield 29, 3) := by decide +kernel
theorem d6_108 : decode prog_13_method_1_code 108 = .ok (.aload_n 0, 1) := by decide +kernel
theorem d6_109 : decode prog_13_method_1_code 109 = .ok (.aload_n 3, 1) := by decide +kernel
theorem d6_110 : decode prog_13_method_1_code 110 = .ok (.putfield 32, 3) := by decide +kernel
theorem d6_113 : decode prog_13_method_1_code 113 = .ok (.aload_n 0, 1) := by decide +kernel
theorem d6_114 : decode prog_13_method_1_code 114 = .ok (.aload 4, 2) := by decide +kernel
theorem d6_116 : decode prog_13_method_1_code 116 = .ok (.putfield 35, 3) := by decide +kernel
theorem d6_119 : decode prog_13_method_1_code 119 = .ok (.aload_n 0, 1) := by decide +kernel
theorem d6_120 : decode prog_13_method_1_code 120 = .ok (.aload 5, 2) := by decide +kernel
theorem d6_122 : decode prog_13_method_1_code 122 = .ok (.putfield 38, 3) := by decide +kernel
theorem d6_125 : decode prog_13_method_1_code 125 = .ok (.aload_n 0, 1) := by decide +kernel
theorem d6_126 : decode prog_13_method_1_code 126 = .ok (.aload 6, 2) := by decide +kernel
theorem d6_128 : decode prog_13_method_1_code 128 = .ok (.putfield 42, 3) := by decide +kernel
theorem d6_131 : decode prog_13_method_1_code 131 = .ok (.aload_n 0, 1) := by decide +kernel
theorem d6_132 : decode prog_13_method_1_code 132 = .ok (.aload 7, 2) := by decide +kernel
theorem d6_134 : decode prog_13_method_1_code 134 = .ok (.putfield 45, 3) := by decide +kernel
theorem d6_137 : decode prog_13_method_1_code 137 = .ok (.aload 7, 2) := by decide +kernel
theorem d6_139 : decode prog_13_method_1_code 139 = .ok (.aload 6, 2) := by decide +kernel
theorem d6_141 : decode prog_13_method_1_code 141 = .ok (.arraylength, 1) := by decide +kernel
theorem d6_142 : decode prog_13_method_1_code 142 = .ok (.iaload, 1) := by decide +kernel
theorem d6_143 : decode prog_13_method_1_code 143 = .ok (.istore 9, 2) := by decide +kernel
theorem d6_145 : decode prog_13_method_1_code 145 = .ok (.iload 9, 2) := by decide +kernel
theorem d6_147 : decode prog_13_method_1_code 147 = .ok (.i2l, 1) := by decide +kernel
theorem d6_148 : decode prog_13_method_1_code 148 = .ok (.ldc2_w 48, 3) := by decide +kernel
theorem d6_151 : decode prog_13_method_1_code 151 = .ok (.ladd, 1) := by decide +kernel
theorem d6_152 : decode prog_13_method_1_code 152 = .ok (.lconst 1, 1) := by decide +kernel
theorem d6_153 : decode prog_13_method_1_code 153 = .ok (.lsub, 1) := by decide +kernel
theorem d6_154 : decode prog_13_method_1_code 154 = .ok (.bipush 6, 2) := by decide +kernel
theorem d6_156 : decode prog_13_method_1_code 156 = .ok (.lushr, 1) := by decide +kernel
theorem d6_157 : decode prog_13_method_1_code 157 = .ok (.l2i, 1) := by decide +kernel
theorem d6_158 : decode prog_13_method_1_code 158 = .ok (.istore 10, 2) := by decide +kernel
theorem d6_160 : decode prog_13_method_1_code 160 = .ok (.aload_n 0, 1) := by decide +kernel
theorem d6_161 : decode prog_13_method_1_code 161 = .ok (.iload 10, 2) := by decide +kernel
theorem d6_163 : decode prog_13_method_1_code 163 = .ok (.iconst 1, 1) := by decide +kernel
theorem d6_164 : decode prog_13_method_1_code 164 = .ok (.iadd, 1) := by decide +kernel
theorem d6_165 : decode prog_13_method_1_code 165 = .ok (.newarray .int, 2) := by decide +kernel
theorem d6_167 : decode prog_13_method_1_code 167 = .ok (.putfield 50, 3) := by decide +kernel
theorem d6_170 : decode prog_13_method_1_code 170 = .ok (.iconst 0, 1) := by decide +kernel
theorem d6_171 : decode prog_13_method_1_code 171 = .ok (.istore 11, 2) := by decide +kernel
theorem d6_173 : decode prog_13_method_1_code 173 = .ok (.iconst 0, 1) := by decide +kernel
theorem d6_174 : decode prog_13_method_1_code 174 = .ok (.istore 12, 2) := by decide +kernel
theorem d6_176 : decode prog_13_method_1_code 176 = .ok (.iload 12, 2) := by decide +kernel
theorem d6_178 : decode prog_13_method_1_code 178 = .ok (.iload 10, 2) := by decide +kernel
theorem d6_180 : decode prog_13_method_1_code 180 = .ok (.if_icmp .ge 39, 3) := by decide +kernel
theorem d6_183 : decode prog_13_method_1_code 183 = .ok (.aload 7, 2) := by decide +kernel
theorem d6_185 : decode prog_13_method_1_code 185 = .ok (.iload 11, 2) := by decide +kernel
theorem d6_187 : decode prog_13_method_1_code 187 = .ok (.iconst 1, 1) := by decide +kernel
theorem d6_188 : decode prog_13_method_1_code 188 = .ok (.iadd, 1) := by decide +kernel
theorem d6_189 : decode prog_13_method_1_code 189 = .ok (.iaload, 1) := by decide +kernel
theorem d6_190 : decode prog_13_method_1_code 190 = .ok (.iload 12, 2) := by decide +kernel
theorem d6_192 : decode prog_13_method_1_code 192 = .ok (.bipush 6, 2) := by decide +kernel
theorem d6_194 : decode prog_13_method_1_code 194 = .ok (.ishl, 1) := by decide +kernel
theorem d6_195 : decode prog_13_method_1_code 195 = .ok (.if_icmp .gt 9, 3) := by decide +kernel
theorem d6_204 : decode prog_13_method_1_code 204 = .ok (.aload_n 0, 1) := by decide +kernel
theorem d6_205 : decode prog_13_method_1_code 205 = .ok (.getfield 50, 3) := by decide +kernel
theorem d6_208 : decode prog_13_method_1_code 208 = .ok (.iload 12, 2) := by decide +kernel
theorem d6_210 : decode prog_13_method_1_code 210 = .ok (.iload 11, 2) := by decide +kernel
theorem d6_212 : decode prog_13_method_1_code 212 = .ok (.iastore, 1) := by decide +kernel
theorem d6_213 : decode prog_13_method_1_code 213 = .ok (.iinc 12 1, 3) := by decide +kernel
theorem d6_216 : decode prog_13_method_1_code 216 = .ok (.goto (-40), 3) := by decide +kernel
theorem d6_219 : decode prog_13_method_1_code 219 = .ok (.aload_n 0, 1) := by decide +kernel
theorem d6_220 : decode prog_13_method_1_code 220 = .ok (.getfield 50, 3) := by decide +kernel
theorem d6_223 : decode prog_13_method_1_code 223 = .ok (.iload 10, 2) := by decide +kernel
theorem d6_225 : decode prog_13_method_1_code 225 = .ok (.aload 6, 2) := by decide +kernel
theorem d6_227 : decode prog_13_method_1_code 227 = .ok (.arraylength, 1) := by decide +kernel
theorem d6_228 : decode prog_13_method_1_code 228 = .ok (.iconst 1, 1) := by decide +kernel
theorem d6_229 : decode prog_13_method_1_code 229 = .ok (.isub, 1) := by decide +kernel
theorem d6_230 : decode prog_13_method_1_code 230 = .ok (.iastore, 1) := by decide +kernel
theorem d6_231 : decode prog_13_method_1_code 231 = .ok (.return_, 1) := by decide +kernel
theorem ef_rm_fr0 (m : MethodId) (x0 : Addr) (x2 : Addr) (x3 : Addr) (x4 : Addr) (x5 : Addr) (x6 : Addr) (x7 : Addr) : entryFrame m #[(.ref x0), (.int (3 : Int32)), (.ref x2), (.ref x3), (.ref x4), (.ref x5), (.ref x6), (.ref x7)] 13 = mkF m 0 #[.val (.ref x0), .val (.int (3 : Int32)), .val (.ref x2), .val (.ref x3), .val (.ref x4), .val (.ref x5), .val (.ref x6), .val (.ref x7), .unset, .unset, .unset, .unset, .unset] [] := by first | (simp [entryFrame, mkF, argsToLocals, Value.category]; done) | rfl
theorem pn_3 : plainName "com/example/tanglemark/tanglemark/datalog/FactoredRows" = true := by first | (simp [plainName, overriddenIn]; done) | decide +kernel
set_option maxRecDepth 65536 in
set_option maxHeartbeats 40000000 in
theorem rm_fr0 (l : Launch) (Z : State) (a0 : Array Value) (hw : ∀ d ∈ tables_1, d.before a0 Z = true) (h0 : Heap) {lo : Nat} (a1 : Addr) (k1 : Addr) (k2 : Addr) (k3 : Addr) (k4 : Addr) (k5 : Addr) (k6 : Addr) (e0 : Addr × oD) (e1 : Addr × oD) (e2 : Addr × oD) (e3 : Addr × oD) (e4 : Addr × oD) (e5 : Addr × oD) (e6 : Addr × oD) (e7 : Addr × oD) (e8 : Addr × oD) (e9 : Addr × oD) (e10 : Addr × oD) (e11 : Addr × oD) (e12 : Addr × oD) (e13 : Addr × oD) (e14 : Addr × oD) (e15 : Addr × oD) (e16 : Addr × oD) (e17 : Addr × oD) (ds : oDs) :
    oMet l Z h0 lo (⟨"com/example/tanglemark/tanglemark/datalog/FactoredRows", "<init>", "(I[I[I[ILcom/example/tanglemark/tanglemark/datalog/SharedSets;[I[I)V"⟩ : MethodName) prog_13_method_1_code 13 none [] ({ frames := 2, cells := 3, slots := 9, locals := 30 } : Room) #[(.ref a1), (.int (3 : Int32)), (.ref k1), (.ref k2), (.ref k3), (.ref k4), (.ref k5), (.ref k6)] ((k6, oA .int [o0, (.int (1 : Int32)), (.int (2 : Int32))]) :: (k5, oA .int [o0, o0]) :: e0 :: e1 :: e2 :: e3 :: e4 :: e5 :: e6 :: e7 :: e8 :: e9 :: e10 :: e11 :: e12 :: e13 :: e14 :: e15 :: (a1, oO cn3 [(fk14, .null), (fk15, (.int (0 : Int32))), (fk16, .null), (fk17, .null), (fk18, (.int (0 : Int32))), (fk19, .null), (fk20, .null), (fk21, .null), (fk22, .null), (fk23, .null), (fk24, .null)]) :: e16 :: e17 :: (k1, oA .int []) :: ds) (fun (v : Option Value) (d : oDs) => (∃ (bk : Addr) (pl : Addr) (sx : Addr), v = none ∧ ((bk, oA .int [o0, (.int (1 : Int32))]) :: (pl, oA .int [(.int (-1 : Int32)), (.int (-2 : Int32)), (.int (-3 : Int32))]) :: (sx, oO cn2 [(fk10, (.int (0 : Int32))), (fk11, (.int (0 : Int32))), (fk12, (.int (0 : Int32))), (fk13, (.int (0 : Int32)))]) :: (k6, oA .int [o0, (.int (1 : Int32)), (.int (2 : Int32))]) :: (k5, oA .int [o0, o0]) :: e0 :: e1 :: e2 :: e3 :: e4 :: e5 :: e6 :: e7 :: e8 :: e9 :: e10 :: e11 :: e12 :: e13 :: e14 :: e15 :: (a1, oO cn3 [(fk14, (.ref sx)), (fk15, (.int (3 : Int32))), (fk16, (.ref k1)), (fk17, (.ref pl)), (fk18, (.int (3 : Int32))), (fk19, (.ref k2)), (fk20, (.ref k3)), (fk21, (.ref k4)), (fk22, (.ref k5)), (fk23, (.ref k6)), (fk24, (.ref bk))]) :: e16 :: e17 :: (k1, oA .int []) :: ds) = d)) := by
  refine oMet.of_body (plainFor_of_name pn_3) ?_
  intro p e s m below meth c T B hby hml hown hnm hret
  refine W_entry (ef_rm_fr0 m a1 k1 k2 k3 k4 k5 k6) ?_
  refine W_aloadN B (hb hby d6_0) (pc' := 1) rfl rfl rfl ?_
  refine W_initO B hown (ow hw (i := 59) rfl) (ow hw (i := 19) rfl) (ow hw (i := 20) rfl) (hb hby d6_1) (pc' := 4) rfl (by rw [hml]; rfl) (W := 0) (oLe rfl) (by decide) ?_
  intro T B
  refine W_aloadN B (hb hby d6_4) (pc' := 5) rfl rfl rfl ?_
  refine W_new B hown (ow hw (i := 60) rfl) (ow hw (i := 61) rfl) (ow hw (i := 62) rfl) (hb hby d6_5) (pc' := 8) rfl (by decide) (cells' := 1) rfl (slots' := 4) rfl (fs := [(fk10, (.int (0 : Int32))), (fk11, (.int (0 : Int32))), (fk12, (.int (0 : Int32))), (fk13, (.int (0 : Int32)))]) (oAll_cons ⟨Or.inr (ow hw (i := 68) rfl), .int, by decide, rfl⟩ (oAll_cons ⟨Or.inr (ow hw (i := 70) rfl), .int, by decide, rfl⟩ (oAll_cons ⟨Or.inr (ow hw (i := 72) rfl), .int, by decide, rfl⟩ (oAll_cons ⟨Or.inr (ow hw (i := 74) rfl), .int, by decide, rfl⟩ oAll_nil)))) (by decide) ?_
  intro T b17 B
  refine W_dup B (hb hby d6_8) (pc' := 9) rfl rfl ?_
  refine W_iconst B (hb hby d6_9) (pc' := 10) rfl (z := (0 : Int32)) (by decide) ?_
  refine W_iconst B (hb hby d6_10) (pc' := 11) rfl (z := (0 : Int32)) (by decide) ?_
  refine W_iconst B (hb hby d6_11) (pc' := 12) rfl (z := (0 : Int32)) (by decide) ?_
  refine W_iconst B (hb hby d6_12) (pc' := 13) rfl (z := (0 : Int32)) (by decide) ?_
  refine W_init B (y := (⟨"com/example/tanglemark/tanglemark/datalog/FactoredRows$Stretch", "<init>", "(IIII)V"⟩ : MethodName)) hown rfl (ow hw (i := 63) rfl) (ow hw (i := 64) rfl) (ow hw (i := 62) rfl) (ow hw (i := 65) rfl) (by decide) (a := b17) (rm_st l Z a0 hw h0 b17 (0 : Int32) (0 : Int32) (0 : Int32) (0 : Int32) ((k6, oA .int [o0, (.int (1 : Int32)), (.int (2 : Int32))]) :: (k5, oA .int [o0, o0]) :: e0 :: e1 :: e2 :: e3 :: e4 :: e5 :: e6 :: e7 :: e8 :: e9 :: e10 :: e11 :: e12 :: e13 :: e14 :: e15 :: (a1, oO cn3 [(fk14, .null), (fk15, (.int (0 : Int32))), (fk16, .null), (fk17, .null), (fk18, (.int (0 : Int32))), (fk19, .null), (fk20, .null), (fk21, .null), (fk22, .null), (fk23, .null), (fk24, .null)]) :: e16 :: e17 :: (k1, oA .int []) :: ds)) (lenOf pd_3 rfl) (hb hby d6_13) (pc' := 16) rfl (argsL := [(.int (0 : Int32)), (.int (0 : Int32)), (.int (0 : Int32)), (.int (0 : Int32))]) (rest := [(.ref b17), (.ref a1)]) rfl (by rw [hml]; rfl) (W := 2) (oLe rfl) (by decide) (cells' := 1) rfl (slots' := 4) rfl ?_
  intro T v_ d_ q_ B
  obtain ⟨rfl, rfl⟩ := q_
  show oWin p e below Z h0 _ _ (T.setTop (mkF m 16 #[.val (.ref a1), .val (.int (3 : Int32)), .val (.ref k1), .val (.ref k2), .val (.ref k3), .val (.ref k4), .val (.ref k5), .val (.ref k6), .unset, .unset, .unset, .unset, .unset] [(.ref b17), (.ref a1)]))
  refine W_putfield B hown (host := "") (Or.inl (ow hw (i := 75) rfl)) Via.refl (hb hby d6_16) (pc' := 19) rfl (Or.inl (ow hw (i := 76) rfl)) (ow hw (i := 2) rfl) (ty := (.object "com/example/tanglemark/tanglemark/datalog/FactoredRows$Stretch")) (by decide) rfl rfl (j := 19) rfl (q := 0) rfl (ds' := ((b17, oO cn2 [(fk10, (.int (0 : Int32))), (fk11, (.int (0 : Int32))), (fk12, (.int (0 : Int32))), (fk13, (.int (0 : Int32)))]) :: (k6, oA .int [o0, (.int (1 : Int32)), (.int (2 : Int32))]) :: (k5, oA .int [o0, o0]) :: e0 :: e1 :: e2 :: e3 :: e4 :: e5 :: e6 :: e7 :: e8 :: e9 :: e10 :: e11 :: e12 :: e13 :: e14 :: e15 :: (a1, oO cn3 [(fk14, (.ref b17)), (fk15, (.int (0 : Int32))), (fk16, .null), (fk17, .null), (fk18, (.int (0 : Int32))), (fk19, .null), (fk20, .null), (fk21, .null), (fk22, .null), (fk23, .null), (fk24, .null)]) :: e16 :: e17 :: (k1, oA .int []) :: ds)) rfl ?_
  intro T B
  refine W_aloadN B (hb hby d6_19) (pc' := 20) rfl rfl rfl ?_
  refine W_iloadN B (hb hby d6_20) (pc' := 21) rfl rfl ?_
  refine W_putfield B hown (host := "") (Or.inl (ow hw (i := 77) rfl)) Via.refl (hb hby d6_21) (pc' := 24) rfl (Or.inr ⟨(ow hw (i := 78) rfl), rfl, hnm⟩) (ow hw (i := 2) rfl) (ty := .int) (by decide) rfl rfl (j := 19) rfl (q := 1) rfl (ds' := ((b17, oO cn2 [(fk10, (.int (0 : Int32))), (fk11, (.int (0 : Int32))), (fk12, (.int (0 : Int32))), (fk13, (.int (0 : Int32)))]) :: (k6, oA .int [o0, (.int (1 : Int32)), (.int (2 : Int32))]) :: (k5, oA .int [o0, o0]) :: e0 :: e1 :: e2 :: e3 :: e4 :: e5 :: e6 :: e7 :: e8 :: e9 :: e10 :: e11 :: e12 :: e13 :: e14 :: e15 :: (a1, oO cn3 [(fk14, (.ref b17)), (fk15, (.int (3 : Int32))), (fk16, .null), (fk17, .null), (fk18, (.int (0 : Int32))), (fk19, .null), (fk20, .null), (fk21, .null), (fk22, .null), (fk23, .null), (fk24, .null)]) :: e16 :: e17 :: (k1, oA .int []) :: ds)) rfl ?_
  intro T B
  refine W_aloadN B (hb hby d6_24) (pc' := 25) rfl rfl rfl ?_
  refine W_aloadN B (hb hby d6_25) (pc' := 26) rfl rfl rfl ?_
  refine W_putfield B hown (host := "") (Or.inl (ow hw (i := 79) rfl)) Via.refl (hb hby d6_26) (pc' := 29) rfl (Or.inr ⟨(ow hw (i := 80) rfl), rfl, hnm⟩) (ow hw (i := 2) rfl) (ty := (.array .int)) (by decide) rfl rfl (j := 19) rfl (q := 2) rfl (ds' := ((b17, oO cn2 [(fk10, (.int (0 : Int32))), (fk11, (.int (0 : Int32))), (fk12, (.int (0 : Int32))), (fk13, (.int (0 : Int32)))]) :: (k6, oA .int [o0, (.int (1 : Int32)), (.int (2 : Int32))]) :: (k5, oA .int [o0, o0]) :: e0 :: e1 :: e2 :: e3 :: e4 :: e5 :: e6 :: e7 :: e8 :: e9 :: e10 :: e11 :: e12 :: e13 :: e14 :: e15 :: (a1, oO cn3 [(fk14, (.ref b17)), (fk15, (.int (3 : Int32))), (fk16, (.ref k1)), (fk17, .null), (fk18, (.int (0 : Int32))), (fk19, .null), (fk20, .null), (fk21, .null), (fk22, .null), (fk23, .null), (fk24, .null)]) :: e16 :: e17 :: (k1, oA .int []) :: ds)) rfl ?_
  intro T B
  refine W_aloadN B (hb hby d6_29) (pc' := 30) rfl rfl rfl ?_
  refine W_iloadN B (hb hby d6_30) (pc' := 31) rfl rfl ?_
  refine W_newarray B (ow hw (i := 0) rfl) (hb hby d6_31) (pc' := 33) rfl (by decide) (cap := 3) (by decide) (by decide) (cells' := 2) rfl (slots' := 7) rfl (vs := [(.int (0 : Int32)), (.int (0 : Int32)), (.int (0 : Int32))]) rfl (ty := .int) rfl ?_
  intro T b18 B
  refine W_putfield B hown (host := "") (Or.inl (ow hw (i := 81) rfl)) Via.refl (hb hby d6_33) (pc' := 36) rfl (Or.inr ⟨(ow hw (i := 82) rfl), rfl, hnm⟩) (ow hw (i := 2) rfl) (ty := (.array .int)) (by decide) rfl rfl (j := 20) rfl (q := 3) rfl (ds' := ((b18, oA .int [o0, o0, o0]) :: (b17, oO cn2 [(fk10, (.int (0 : Int32))), (fk11, (.int (0 : Int32))), (fk12, (.int (0 : Int32))), (fk13, (.int (0 : Int32)))]) :: (k6, oA .int [o0, (.int (1 : Int32)), (.int (2 : Int32))]) :: (k5, oA .int [o0, o0]) :: e0 :: e1 :: e2 :: e3 :: e4 :: e5 :: e6 :: e7 :: e8 :: e9 :: e10 :: e11 :: e12 :: e13 :: e14 :: e15 :: (a1, oO cn3 [(fk14, (.ref b17)), (fk15, (.int (3 : Int32))), (fk16, (.ref k1)), (fk17, (.ref b18)), (fk18, (.int (0 : Int32))), (fk19, .null), (fk20, .null), (fk21, .null), (fk22, .null), (fk23, .null), (fk24, .null)]) :: e16 :: e17 :: (k1, oA .int []) :: ds)) rfl ?_
  intro T B
  refine W_iconst B (hb hby d6_36) (pc' := 37) rfl (z := (0 : Int32)) (by decide) ?_
  refine W_istore B (hb hby d6_37) (pc' := 39) rfl (v := (0 : Int32)) rfl (ls' := #[.val (.ref a1), .val (.int (3 : Int32)), .val (.ref k1), .val (.ref k2), .val (.ref k3), .val (.ref k4), .val (.ref k5), .val (.ref k6), .val (.int (0 : Int32)), .unset, .unset, .unset, .unset]) rfl ?_
  refine W_iconst B (hb hby d6_39) (pc' := 40) rfl (z := (0 : Int32)) (by decide) ?_
  refine W_istore B (hb hby d6_40) (pc' := 42) rfl (v := (0 : Int32)) rfl (ls' := #[.val (.ref a1), .val (.int (3 : Int32)), .val (.ref k1), .val (.ref k2), .val (.ref k3), .val (.ref k4), .val (.ref k5), .val (.ref k6), .val (.int (0 : Int32)), .val (.int (0 : Int32)), .unset, .unset, .unset]) rfl ?_
  refine W_iconst B (hb hby d6_42) (pc' := 43) rfl (z := (0 : Int32)) (by decide) ?_
  refine W_istore B (hb hby d6_43) (pc' := 45) rfl (v := (0 : Int32)) rfl (ls' := #[.val (.ref a1), .val (.int (3 : Int32)), .val (.ref k1), .val (.ref k2), .val (.ref k3), .val (.ref k4), .val (.ref k5), .val (.ref k6), .val (.int (0 : Int32)), .val (.int (0 : Int32)), .val (.int (0 : Int32)), .unset, .unset]) rfl ?_
  refine W_iload B (hb hby d6_45) (pc' := 47) rfl rfl ?_
  refine W_iloadN B (hb hby d6_47) (pc' := 48) rfl rfl ?_
  refine W_icmpN B (hb hby d6_48) (pc' := 51) rfl (by decide) ?_
  refine W_iload B (hb hby d6_51) (pc' := 53) rfl rfl ?_
  refine W_aloadN B (hb hby d6_53) (pc' := 54) rfl rfl rfl ?_
  refine W_arraylength B (hb hby d6_54) (pc' := 55) rfl (j := 23) rfl (z := (0 : Int32)) rfl ?_
  refine W_icmpY B (hb hby d6_55) (by decide) (pc' := 82) (by decide) (by decide) ?_
  refine W_aloadN B (hb hby d6_82) (pc' := 83) rfl rfl rfl ?_
  refine W_getfield B hown (host := "") (Or.inl (ow hw (i := 81) rfl)) Via.refl (hb hby d6_83) (pc' := 86) rfl (j := 20) rfl (q := 3) rfl ?_
  intro T B
  refine W_iload B (hb hby d6_86) (pc' := 88) rfl rfl ?_
  refine W_iconst B (hb hby d6_88) (pc' := 89) rfl (z := (-1 : Int32)) (by decide) ?_
  refine W_iload B (hb hby d6_89) (pc' := 91) rfl rfl ?_
  refine W_iinc B (hb hby d6_91) (pc' := 94) rfl rfl (z := (1 : Int32)) (by decide) (ls' := #[.val (.ref a1), .val (.int (3 : Int32)), .val (.ref k1), .val (.ref k2), .val (.ref k3), .val (.ref k4), .val (.ref k5), .val (.ref k6), .val (.int (1 : Int32)), .val (.int (0 : Int32)), .val (.int (0 : Int32)), .unset, .unset]) rfl ?_
  refine W_isub B (hb hby d6_94) (pc' := 95) rfl (z := (-1 : Int32)) (by decide) ?_
  refine W_iastore B (hb hby d6_95) (pc' := 96) rfl (i := 0) rfl (by decide) (oLt rfl) (ds' := ((b18, oA .int [(.int (-1 : Int32)), o0, o0]) :: (b17, oO cn2 [(fk10, (.int (0 : Int32))), (fk11, (.int (0 : Int32))), (fk12, (.int (0 : Int32))), (fk13, (.int (0 : Int32)))]) :: (k6, oA .int [o0, (.int (1 : Int32)), (.int (2 : Int32))]) :: (k5, oA .int [o0, o0]) :: e0 :: e1 :: e2 :: e3 :: e4 :: e5 :: e6 :: e7 :: e8 :: e9 :: e10 :: e11 :: e12 :: e13 :: e14 :: e15 :: (a1, oO cn3 [(fk14, (.ref b17)), (fk15, (.int (3 : Int32))), (fk16, (.ref k1)), (fk17, (.ref b18)), (fk18, (.int (0 : Int32))), (fk19, .null), (fk20, .null), (fk21, .null), (fk22, .null), (fk23, .null), (fk24, .null)]) :: e16 :: e17 :: (k1, oA .int []) :: ds)) rfl ?_
  intro T B
  refine W_iinc B (hb hby d6_96) (pc' := 99) rfl rfl (z := (1 : Int32)) (by decide) (ls' := #[.val (.ref a1), .val (.int (3 : Int32)), .val (.ref k1), .val (.ref k2), .val (.ref k3), .val (.ref k4), .val (.ref k5), .val (.ref k6), .val (.int (1 : Int32)), .val (.int (1 : Int32)), .val (.int (0 : Int32)), .unset, .unset]) rfl ?_
  refine W_goto B (hb hby d6_99) (by decide) (pc' := 45) (by decide) ?_
  refine W_iload B (hb hby d6_45) (pc' := 47) rfl rfl ?_
  refine W_iloadN B (hb hby d6_47) (pc' := 48) rfl rfl ?_
  refine W_icmpN B (hb hby d6_48) (pc' := 51) rfl (by decide) ?_
  refine W_iload B (hb hby d6_51) (pc' := 53) rfl rfl ?_
  refine W_aloadN B (hb hby d6_53) (pc' := 54) rfl rfl rfl ?_
  refine W_arraylength B (hb hby d6_54) (pc' := 55) rfl (j := 23) rfl (z := (0 : Int32)) rfl ?_
  refine W_icmpY B (hb hby d6_55) (by decide) (pc' := 82) (by decide) (by decide) ?_
  refine W_aloadN B (hb hby d6_82) (pc' := 83) rfl rfl rfl ?_
  refine W_getfield B hown (host := "") (Or.inl (ow hw (i := 81) rfl)) Via.refl (hb hby d6_83) (pc' := 86) rfl (j := 20) rfl (q := 3) rfl ?_
  intro T B
  refine W_iload B (hb hby d6_86) (pc' := 88) rfl rfl ?_
  refine W_iconst B (hb hby d6_88) (pc' := 89) rfl (z := (-1 : Int32)) (by decide) ?_
  refine W_iload B (hb hby d6_89) (pc' := 91) rfl rfl ?_
  refine W_iinc B (hb hby d6_91) (pc' := 94) rfl rfl (z := (2 : Int32)) (by decide) (ls' := #[.val (.ref a1), .val (.int (3 : Int32)), .val (.ref k1), .val (.ref k2), .val (.ref k3), .val (.ref k4), .val (.ref k5), .val (.ref k6), .val (.int (2 : Int32)), .val (.int (1 : Int32)), .val (.int (0 : Int32)), .unset, .unset]) rfl ?_
  refine W_isub B (hb hby d6_94) (pc' := 95) rfl (z := (-2 : Int32)) (by decide) ?_
  refine W_iastore B (hb hby d6_95) (pc' := 96) rfl (i := 0) rfl (by decide) (oLt rfl) (ds' := ((b18, oA .int [(.int (-1 : Int32)), (.int (-2 : Int32)), o0]) :: (b17, oO cn2 [(fk10, (.int (0 : Int32))), (fk11, (.int (0 : Int32))), (fk12, (.int (0 : Int32))), (fk13, (.int (0 : Int32)))]) :: (k6, oA .int [o0, (.int (1 : Int32)), (.int (2 : Int32))]) :: (k5, oA .int [o0, o0]) :: e0 :: e1 :: e2 :: e3 :: e4 :: e5 :: e6 :: e7 :: e8 :: e9 :: e10 :: e11 :: e12 :: e13 :: e14 :: e15 :: (a1, oO cn3 [(fk14, (.ref b17)), (fk15, (.int (3 : Int32))), (fk16, (.ref k1)), (fk17, (.ref b18)), (fk18, (.int (0 : Int32))), (fk19, .null), (fk20, .null), (fk21, .null), (fk22, .null), (fk23, .null), (fk24, .null)]) :: e16 :: e17 :: (k1, oA .int []) :: ds)) rfl ?_
  intro T B
  refine W_iinc B (hb hby d6_96) (pc' := 99) rfl rfl (z := (2 : Int32)) (by decide) (ls' := #[.val (.ref a1), .val (.int (3 : Int32)), .val (.ref k1), .val (.ref k2), .val (.ref k3), .val (.ref k4), .val (.ref k5), .val (.ref k6), .val (.int (2 : Int32)), .val (.int (2 : Int32)), .val (.int (0 : Int32)), .unset, .unset]) rfl ?_
  refine W_goto B (hb hby d6_99) (by decide) (pc' := 45) (by decide) ?_
  refine W_iload B (hb hby d6_45) (pc' := 47) rfl rfl ?_
  refine W_iloadN B (hb hby d6_47) (pc' := 48) rfl rfl ?_
  refine W_icmpN B (hb hby d6_48) (pc' := 51) rfl (by decide) ?_
  refine W_iload B (hb hby d6_51) (pc' := 53) rfl rfl ?_
  refine W_aloadN B (hb hby d6_53) (pc' := 54) rfl rfl rfl ?_
  refine W_arraylength B (hb hby d6_54) (pc' := 55) rfl (j := 23) rfl (z := (0 : Int32)) rfl ?_
  refine W_icmpY B (hb hby d6_55) (by decide) (pc' := 82) (by decide) (by decide) ?_
  refine W_aloadN B (hb hby d6_82) (pc' := 83) rfl rfl rfl ?_
  refine W_getfield B hown (host := "") (Or.inl (ow hw (i := 81) rfl)) Via.refl (hb hby d6_83) (pc' := 86) rfl (j := 20) rfl (q := 3) rfl ?_
  intro T B
  refine W_iload B (hb hby d6_86) (pc' := 88) rfl rfl ?_
  refine W_iconst B (hb hby d6_88) (pc' := 89) rfl (z := (-1 : Int32)) (by decide) ?_
  refine W_iload B (hb hby d6_89) (pc' := 91) rfl rfl ?_
  refine W_iinc B (hb hby d6_91) (pc' := 94) rfl rfl (z := (3 : Int32)) (by decide) (ls' := #[.val (.ref a1), .val (.int (3 : Int32)), .val (.ref k1), .val (.ref k2), .val (.ref k3), .val (.ref k4), .val (.ref k5), .val (.ref k6), .val (.int (3 : Int32)), .val (.int (2 : Int32)), .val (.int (0 : Int32)), .unset, .unset]) rfl ?_
  refine W_isub B (hb hby d6_94) (pc' := 95) rfl (z := (-3 : Int32)) (by decide) ?_
  refine W_iastore B (hb hby d6_95) (pc' := 96) rfl (i := 0) rfl (by decide) (oLt rfl) (ds' := ((b18, oA .int [(.int (-1 : Int32)), (.int (-2 : Int32)), (.int (-3 : Int32))]) :: (b17, oO cn2 [(fk10, (.int (0 : Int32))), (fk11, (.int (0 : Int32))), (fk12, (.int (0 : Int32))), (fk13, (.int (0 : Int32)))]) :: (k6, oA .int [o0, (.int (1 : Int32)), (.int (2 : Int32))]) :: (k5, oA .int [o0, o0]) :: e0 :: e1 :: e2 :: e3 :: e4 :: e5 :: e6 :: e7 :: e8 :: e9 :: e10 :: e11 :: e12 :: e13 :: e14 :: e15 :: (a1, oO cn3 [(fk14, (.ref b17)), (fk15, (.int (3 : Int32))), (fk16, (.ref k1)), (fk17, (.ref b18)), (fk18, (.int (0 : Int32))), (fk19, .null), (fk20, .null), (fk21, .null), (fk22, .null), (fk23, .null), (fk24, .null)]) :: e16 :: e17 :: (k1, oA .int []) :: ds)) rfl ?_
  intro T B
  refine W_iinc B (hb hby d6_96) (pc' := 99) rfl rfl (z := (3 : Int32)) (by decide) (ls' := #[.val (.ref a1), .val (.int (3 : Int32)), .val (.ref k1), .val (.ref k2), .val (.ref k3), .val (.ref k4), .val (.ref k5), .val (.ref k6), .val (.int (3 : Int32)), .val (.int (3 : Int32)), .val (.int (0 : Int32)), .unset, .unset]) rfl ?_
  refine W_goto B (hb hby d6_99) (by decide) (pc' := 45) (by decide) ?_
  refine W_iload B (hb hby d6_45) (pc' := 47) rfl rfl ?_
  refine W_iloadN B (hb hby d6_47) (pc' := 48) rfl rfl ?_
  refine W_icmpY B (hb hby d6_48) (by decide) (pc' := 102) (by decide) (by decide) ?_
  refine W_aloadN B (hb hby d6_102) (pc' := 103) rfl rfl rfl ?_
  refine W_iload B (hb hby d6_103) (pc' := 105) rfl rfl ?_
  refine W_putfield B hown (host := "") (Or.inl (ow hw (i := 83) rfl)) Via.refl (hb hby d6_105) (pc' := 108) rfl (Or.inr ⟨(ow hw (i := 84) rfl), rfl, hnm⟩) (ow hw (i := 2) rfl) (ty := .int) (by decide) rfl rfl (j := 20) rfl (q := 4) rfl (ds' := ((b18, oA .int [(.int (-1 : Int32)), (.int (-2 : Int32)), (.int (-3 : Int32))]) :: (b17, oO cn2 [(fk10, (.int (0 : Int32))), (fk11, (.int (0 : Int32))), (fk12, (.int (0 : Int32))), (fk13, (.int (0 : Int32)))]) :: (k6, oA .int [o0, (.int (1 : Int32)), (.int (2 : Int32))]) :: (k5, oA .int [o0, o0]) :: e0 :: e1 :: e2 :: e3 :: e4 :: e5 :: e6 :: e7 :: e8 :: e9 :: e10 :: e11 :: e12 :: e13 :: e14 :: e15 :: (a1, oO cn3 [(fk14, (.ref b17)), (fk15, (.int (3 : Int32))), (fk16, (.ref k1)), (fk17, (.ref b18)), (fk18, (.int (3 : Int32))), (fk19, .null), (fk20, .null), (fk21, .null), (fk22, .null), (fk23, .null), (fk24, .null)]) :: e16 :: e17 :: (k1, oA .int []) :: ds)) rfl ?_
  intro T B
  refine W_aloadN B (hb hby d6_108) (pc' := 109) rfl rfl rfl ?_
  refine W_aloadN B (hb hby d6_109) (pc' := 110) rfl rfl rfl ?_
  refine W_putfield B hown (host := "") (Or.inl (ow hw (i := 85) rfl)) Via.refl (hb hby d6_110) (pc' := 113) rfl (Or.inr ⟨(ow hw (i := 86) rfl), rfl, hnm⟩) (ow hw (i := 2) rfl) (ty := (.array .int)) (by decide) rfl rfl (j := 20) rfl (q := 5) rfl (ds' := ((b18, oA .int [(.int (-1 : Int32)), (.int (-2 : Int32)), (.int (-3 : Int32))]) :: (b17, oO cn2 [(fk10, (.int (0 : Int32))), (fk11, (.int (0 : Int32))), (fk12, (.int (0 : Int32))), (fk13, (.int (0 : Int32)))]) :: (k6, oA .int [o0, (.int (1 : Int32)), (.int (2 : Int32))]) :: (k5, oA .int [o0, o0]) :: e0 :: e1 :: e2 :: e3 :: e4 :: e5 :: e6 :: e7 :: e8 :: e9 :: e10 :: e11 :: e12 :: e13 :: e14 :: e15 :: (a1, oO cn3 [(fk14, (.ref b17)), (fk15, (.int (3 : Int32))), (fk16, (.ref k1)), (fk17, (.ref b18)), (fk18, (.int (3 : Int32))), (fk19, (.ref k2)), (fk20, .null), (fk21, .null), (fk22, .null), (fk23, .null), (fk24, .null)]) :: e16 :: e17 :: (k1, oA .int []) :: ds)) rfl ?_
  intro T B
  refine W_aloadN B (hb hby d6_113) (pc' := 114) rfl rfl rfl ?_
  refine W_aload B (hb hby d6_114) (pc' := 116) rfl rfl rfl ?_
  refine W_putfield B hown (host := "") (Or.inl (ow hw (i := 87) rfl)) Via.refl (hb hby d6_116) (pc' := 119) rfl (Or.inr ⟨(ow hw (i := 88) rfl), rfl, hnm⟩) (ow hw (i := 2) rfl) (ty := (.array .int)) (by decide) rfl rfl (j := 20) rfl (q := 6) rfl (ds' := ((b18, oA .int [(.int (-1 : Int32)), (.int (-2 : Int32)), (.int (-3 : Int32))]) :: (b17, oO cn2 [(fk10, (.int (0 : Int32))), (fk11, (.int (0 : Int32))), (fk12, (.int (0 : Int32))), (fk13, (.int (0 : Int32)))]) :: (k6, oA .int [o0, (.int (1 : Int32)), (.int (2 : Int32))]) :: (k5, oA .int [o0, o0]) :: e0 :: e1 :: e2 :: e3 :: e4 :: e5 :: e6 :: e7 :: e8 :: e9 :: e10 :: e11 :: e12 :: e13 :: e14 :: e15 :: (a1, oO cn3 [(fk14, (.ref b17)), (fk15, (.int (3 : Int32))), (fk16, (.ref k1)), (fk17, (.ref b18)), (fk18, (.int (3 : Int32))), (fk19, (.ref k2)), (fk20, (.ref k3)), (fk21, .null), (fk22, .null), (fk23, .null), (fk24, .null)]) :: e16 :: e17 :: (k1, oA .int []) :: ds)) rfl ?_
  intro T B
  refine W_aloadN B (hb hby d6_119) (pc' := 120) rfl rfl rfl ?_
  refine W_aload B (hb hby d6_120) (pc' := 122) rfl rfl rfl ?_
  refine W_putfield B hown (host := "") (Or.inl (ow hw (i := 89) rfl)) Via.refl (hb hby d6_122) (pc' := 125) rfl (Or.inr ⟨(ow hw (i := 90) rfl), rfl, hnm⟩) (ow hw (i := 2) rfl) (ty := (.object "com/example/tanglemark/tanglemark/datalog/SharedSets")) (by decide) rfl rfl (j := 20) rfl (q := 7) rfl (ds' := ((b18, oA .int [(.int (-1 : Int32)), (.int (-2 : Int32)), (.int (-3 : Int32))]) :: (b17, oO cn2 [(fk10, (.int (0 : Int32))), (fk11, (.int (0 : Int32))), (fk12, (.int (0 : Int32))), (fk13, (.int (0 : Int32)))]) :: (k6, oA .int [o0, (.int (1 : Int32)), (.int (2 : Int32))]) :: (k5, oA .int [o0, o0]) :: e0 :: e1 :: e2 :: e3 :: e4 :: e5 :: e6 :: e7 :: e8 :: e9 :: e10 :: e11 :: e12 :: e13 :: e14 :: e15 :: (a1, oO cn3 [(fk14, (.ref b17)), (fk15, (.int (3 : Int32))), (fk16, (.ref k1)), (fk17, (.ref b18)), (fk18, (.int (3 : Int32))), (fk19, (.ref k2)), (fk20, (.ref k3)), (fk21, (.ref k4)), (fk22, .null), (fk23, .null), (fk24, .null)]) :: e16 :: e17 :: (k1, oA .int []) :: ds)) rfl ?_
  intro T B
  refine W_aloadN B (hb hby d6_125) (pc' := 126) rfl rfl rfl ?_
  refine W_aload B (hb hby d6_126) (pc' := 128) rfl rfl rfl ?_
  refine W_putfield B hown (host := "") (Or.inl (ow hw (i := 91) rfl)) Via.refl (hb hby d6_128) (pc' := 131) rfl (Or.inr ⟨(ow hw (i := 92) rfl), rfl, hnm⟩) (ow hw (i := 2) rfl) (ty := (.array .int)) (by decide) rfl rfl (j := 20) rfl (q := 8) rfl (ds' := ((b18, oA .int [(.int (-1 : Int32)), (.int (-2 : Int32)), (.int (-3 : Int32))]) :: (b17, oO cn2 [(fk10, (.int (0 : Int32))), (fk11, (.int (0 : Int32))), (fk12, (.int (0 : Int32))), (fk13, (.int (0 : Int32)))]) :: (k6, oA .int [o0, (.int (1 : Int32)), (.int (2 : Int32))]) :: (k5, oA .int [o0, o0]) :: e0 :: e1 :: e2 :: e3 :: e4 :: e5 :: e6 :: e7 :: e8 :: e9 :: e10 :: e11 :: e12 :: e13 :: e14 :: e15 :: (a1, oO cn3 [(fk14, (.ref b17)), (fk15, (.int (3 : Int32))), (fk16, (.ref k1)), (fk17, (.ref b18)), (fk18, (.int (3 : Int32))), (fk19, (.ref k2)), (fk20, (.ref k3)), (fk21, (.ref k4)), (fk22, (.ref k5)), (fk23, .null), (fk24, .null)]) :: e16 :: e17 :: (k1, oA .int []) :: ds)) rfl ?_
  intro T B
  refine W_aloadN B (hb hby d6_131) (pc' := 132) rfl rfl rfl ?_
  refine W_aload B (hb hby d6_132) (pc' := 134) rfl rfl rfl ?_
  refine W_putfield B hown (host := "") (Or.inl (ow hw (i := 93) rfl)) Via.refl (hb hby d6_134) (pc' := 137) rfl (Or.inr ⟨(ow hw (i := 94) rfl), rfl, hnm⟩) (ow hw (i := 2) rfl) (ty := (.array .int)) (by decide) rfl rfl (j := 20) rfl (q := 9) rfl (ds' := ((b18, oA .int [(.int (-1 : Int32)), (.int (-2 : Int32)), (.int (-3 : Int32))]) :: (b17, oO cn2 [(fk10, (.int (0 : Int32))), (fk11, (.int (0 : Int32))), (fk12, (.int (0 : Int32))), (fk13, (.int (0 : Int32)))]) :: (k6, oA .int [o0, (.int (1 : Int32)), (.int (2 : Int32))]) :: (k5, oA .int [o0, o0]) :: e0 :: e1 :: e2 :: e3 :: e4 :: e5 :: e6 :: e7 :: e8 :: e9 :: e10 :: e11 :: e12 :: e13 :: e14 :: e15 :: (a1, oO cn3 [(fk14, (.ref b17)), (fk15, (.int (3 : Int32))), (fk16, (.ref k1)), (fk17, (.ref b18)), (fk18, (.int (3 : Int32))), (fk19, (.ref k2)), (fk20, (.ref k3)), (fk21, (.ref k4)), (fk22, (.ref k5)), (fk23, (.ref k6)), (fk24, .null)]) :: e16 :: e17 :: (k1, oA .int []) :: ds)) rfl ?_
  intro T B
  refine W_aload B (hb hby d6_137) (pc' := 139) rfl rfl rfl ?_
  refine W_aload B (hb hby d6_139) (pc' := 141) rfl rfl rfl ?_
  refine W_arraylength B (hb hby d6_141) (pc' := 142) rfl (j := 3) rfl (z := (2 : Int32)) rfl ?_
  refine W_iaload B (hb hby d6_142) (pc' := 143) rfl (i := 2) rfl (by decide) (v := (.int (2 : Int32))) rfl ?_
  refine W_istore B (hb hby d6_143) (pc' := 145) rfl (v := (2 : Int32)) rfl (ls' := #[.val (.ref a1), .val (.int (3 : Int32)), .val (.ref k1), .val (.ref k2), .val (.ref k3), .val (.ref k4), .val (.ref k5), .val (.ref k6), .val (.int (3 : Int32)), .val (.int (2 : Int32)), .val (.int (0 : Int32)), .unset, .unset]) rfl ?_
  refine W_iload B (hb hby d6_145) (pc' := 147) rfl rfl ?_
  refine W_i2l B (hb hby d6_147) (pc' := 148) rfl (z := (2 : Int64)) (by decide) ?_
  refine W_ldc2Long B hown (ow hw (i := 95) rfl) (hb hby d6_148) (pc' := 151) rfl ?_
  refine W_ladd B (hb hby d6_151) (pc' := 152) rfl (z := (66 : Int64)) (by decide) ?_
  refine W_lconst B (hb hby d6_152) (pc' := 153) rfl (z := (1 : Int64)) (by decide) ?_
  refine W_lsub B (hb hby d6_153) (pc' := 154) rfl (z := (65 : Int64)) (by decide) ?_
  refine W_bipush B (hb hby d6_154) (pc' := 156) rfl (z := (6 : Int32)) (by decide) ?_
  refine W_lushr B (hb hby d6_156) (pc' := 157) rfl (z := (1 : Int64)) (by decide) ?_
  refine W_l2i B (hb hby d6_157) (pc' := 158) rfl (z := (1 : Int32)) (by decide) ?_
  refine W_istore B (hb hby d6_158) (pc' := 160) rfl (v := (1 : Int32)) rfl (ls' := #[.val (.ref a1), .val (.int (3 : Int32)), .val (.ref k1), .val (.ref k2), .val (.ref k3), .val (.ref k4), .val (.ref k5), .val (.ref k6), .val (.int (3 : Int32)), .val (.int (2 : Int32)), .val (.int (1 : Int32)), .unset, .unset]) rfl ?_
  refine W_aloadN B (hb hby d6_160) (pc' := 161) rfl rfl rfl ?_
  refine W_iload B (hb hby d6_161) (pc' := 163) rfl rfl ?_
  refine W_iconst B (hb hby d6_163) (pc' := 164) rfl (z := (1 : Int32)) (by decide) ?_
  refine W_iadd B (hb hby d6_164) (pc' := 165) rfl (z := (2 : Int32)) (by decide) ?_
  refine W_newarray B (ow hw (i := 0) rfl) (hb hby d6_165) (pc' := 167) rfl (by decide) (cap := 2) (by decide) (by decide) (cells' := 3) rfl (slots' := 9) rfl (vs := [(.int (0 : Int32)), (.int (0 : Int32))]) rfl (ty := .int) rfl ?_
  intro T b19 B
  refine W_putfield B hown (host := "") (Or.inl (ow hw (i := 96) rfl)) Via.refl (hb hby d6_167) (pc' := 170) rfl (Or.inr ⟨(ow hw (i := 97) rfl), rfl, hnm⟩) (ow hw (i := 2) rfl) (ty := (.array .int)) (by decide) rfl rfl (j := 21) rfl (q := 10) rfl (ds' := ((b19, oA .int [o0, o0]) :: (b18, oA .int [(.int (-1 : Int32)), (.int (-2 : Int32)), (.int (-3 : Int32))]) :: (b17, oO cn2 [(fk10, (.int (0 : Int32))), (fk11, (.int (0 : Int32))), (fk12, (.int (0 : Int32))), (fk13, (.int (0 : Int32)))]) :: (k6, oA .int [o0, (.int (1 : Int32)), (.int (2 : Int32))]) :: (k5, oA .int [o0, o0]) :: e0 :: e1 :: e2 :: e3 :: e4 :: e5 :: e6 :: e7 :: e8 :: e9 :: e10 :: e11 :: e12 :: e13 :: e14 :: e15 :: (a1, oO cn3 [(fk14, (.ref b17)), (fk15, (.int (3 : Int32))), (fk16, (.ref k1)), (fk17, (.ref b18)), (fk18, (.int (3 : Int32))), (fk19, (.ref k2)), (fk20, (.ref k3)), (fk21, (.ref k4)), (fk22, (.ref k5)), (fk23, (.ref k6)), (fk24, (.ref b19))]) :: e16 :: e17 :: (k1, oA .int []) :: ds)) rfl ?_
  intro T B
  refine W_iconst B (hb hby d6_170) (pc' := 171) rfl (z := (0 : Int32)) (by decide) ?_
  refine W_istore B (hb hby d6_171) (pc' := 173) rfl (v := (0 : Int32)) rfl (ls' := #[.val (.ref a1), .val (.int (3 : Int32)), .val (.ref k1), .val (.ref k2), .val (.ref k3), .val (.ref k4), .val (.ref k5), .val (.ref k6), .val (.int (3 : Int32)), .val (.int (2 : Int32)), .val (.int (1 : Int32)), .val (.int (0 : Int32)), .unset]) rfl ?_
  refine W_iconst B (hb hby d6_173) (pc' := 174) rfl (z := (0 : Int32)) (by decide) ?_
  refine W_istore B (hb hby d6_174) (pc' := 176) rfl (v := (0 : Int32)) rfl (ls' := #[.val (.ref a1), .val (.int (3 : Int32)), .val (.ref k1), .val (.ref k2), .val (.ref k3), .val (.ref k4), .val (.ref k5), .val (.ref k6), .val (.int (3 : Int32)), .val (.int (2 : Int32)), .val (.int (1 : Int32)), .val (.int (0 : Int32)), .val (.int (0 : Int32))]) rfl ?_
  refine W_iload B (hb hby d6_176) (pc' := 178) rfl rfl ?_
  refine W_iload B (hb hby d6_178) (pc' := 180) rfl rfl ?_
  refine W_icmpN B (hb hby d6_180) (pc' := 183) rfl (by decide) ?_
  refine W_aload B (hb hby d6_183) (pc' := 185) rfl rfl rfl ?_
  refine W_iload B (hb hby d6_185) (pc' := 187) rfl rfl ?_
  refine W_iconst B (hb hby d6_187) (pc' := 188) rfl (z := (1 : Int32)) (by decide) ?_
  refine W_iadd B (hb hby d6_188) (pc' := 189) rfl (z := (1 : Int32)) (by decide) ?_
  refine W_iaload B (hb hby d6_189) (pc' := 190) rfl (i := 3) rfl (by decide) (v := (.int (1 : Int32))) rfl ?_
  refine W_iload B (hb hby d6_190) (pc' := 192) rfl rfl ?_
  refine W_bipush B (hb hby d6_192) (pc' := 194) rfl (z := (6 : Int32)) (by decide) ?_
  refine W_ishl B (hb hby d6_194) (pc' := 195) rfl (z := (0 : Int32)) (by decide) ?_
  refine W_icmpY B (hb hby d6_195) (by decide) (pc' := 204) (by decide) (by decide) ?_
  refine W_aloadN B (hb hby d6_204) (pc' := 205) rfl rfl rfl ?_
  refine W_getfield B hown (host := "") (Or.inl (ow hw (i := 96) rfl)) Via.refl (hb hby d6_205) (pc' := 208) rfl (j := 21) rfl (q := 10) rfl ?_
  intro T B
  refine W_iload B (hb hby d6_208) (pc' := 210) rfl rfl ?_
  refine W_iload B (hb hby d6_210) (pc' := 212) rfl rfl ?_
  refine W_iastore B (hb hby d6_212) (pc' := 213) rfl (i := 0) rfl (by decide) (oLt rfl) (ds' := ((b19, oA .int [o0, o0]) :: (b18, oA .int [(.int (-1 : Int32)), (.int (-2 : Int32)), (.int (-3 : Int32))]) :: (b17, oO cn2 [(fk10, (.int (0 : Int32))), (fk11, (.int (0 : Int32))), (fk12, (.int (0 : Int32))), (fk13, (.int (0 : Int32)))]) :: (k6, oA .int [o0, (.int (1 : Int32)), (.int (2 : Int32))]) :: (k5, oA .int [o0, o0]) :: e0 :: e1 :: e2 :: e3 :: e4 :: e5 :: e6 :: e7 :: e8 :: e9 :: e10 :: e11 :: e12 :: e13 :: e14 :: e15 :: (a1, oO cn3 [(fk14, (.ref b17)), (fk15, (.int (3 : Int32))), (fk16, (.ref k1)), (fk17, (.ref b18)), (fk18, (.int (3 : Int32))), (fk19, (.ref k2)), (fk20, (.ref k3)), (fk21, (.ref k4)), (fk22, (.ref k5)), (fk23, (.ref k6)), (fk24, (.ref b19))]) :: e16 :: e17 :: (k1, oA .int []) :: ds)) rfl ?_
  intro T B
  refine W_iinc B (hb hby d6_213) (pc' := 216) rfl rfl (z := (1 : Int32)) (by decide) (ls' := #[.val (.ref a1), .val (.int (3 : Int32)), .val (.ref k1), .val (.ref k2), .val (.ref k3), .val (.ref k4), .val (.ref k5), .val (.ref k6), .val (.int (3 : Int32)), .val (.int (2 : Int32)), .val (.int (1 : Int32)), .val (.int (0 : Int32)), .val (.int (1 : Int32))]) rfl ?_
  refine W_goto B (hb hby d6_216) (by decide) (pc' := 176) (by decide) ?_
  refine W_iload B (hb hby d6_176) (pc' := 178) rfl rfl ?_
  refine W_iload B (hb hby d6_178) (pc' := 180) rfl rfl ?_
  refine W_icmpY B (hb hby d6_180) (by decide) (pc' := 219) (by decide) (by decide) ?_
  refine W_aloadN B (hb hby d6_219) (pc' := 220) rfl rfl rfl ?_
  refine W_getfield B hown (host := "") (Or.inl (ow hw (i := 96) rfl)) Via.refl (hb hby d6_220) (pc' := 223) rfl (j := 21) rfl (q := 10) rfl ?_
  intro T B
  refine W_iload B (hb hby d6_223) (pc' := 225) rfl rfl ?_
  refine W_aload B (hb hby d6_225) (pc' := 227) rfl rfl rfl ?_
  refine W_arraylength B (hb hby d6_227) (pc' := 228) rfl (j := 4) rfl (z := (2 : Int32)) rfl ?_
  refine W_iconst B (hb hby d6_228) (pc' := 229) rfl (z := (1 : Int32)) (by decide) ?_
  refine W_isub B (hb hby d6_229) (pc' := 230) rfl (z := (1 : Int32)) (by decide) ?_
  refine W_iastore B (hb hby d6_230) (pc' := 231) rfl (i := 0) rfl (by decide) (oLt rfl) (ds' := ((b19, oA .int [o0, (.int (1 : Int32))]) :: (b18, oA .int [(.int (-1 : Int32)), (.int (-2 : Int32)), (.int (-3 : Int32))]) :: (b17, oO cn2 [(fk10, (.int (0 : Int32))), (fk11, (.int (0 : Int32))), (fk12, (.int (0 : Int32))), (fk13, (.int (0 : Int32)))]) :: (k6, oA .int [o0, (.int (1 : Int32)), (.int (2 : Int32))]) :: (k5, oA .int [o0, o0]) :: e0 :: e1 :: e2 :: e3 :: e4 :: e5 :: e6 :: e7 :: e8 :: e9 :: e10 :: e11 :: e12 :: e13 :: e14 :: e15 :: (a1, oO cn3 [(fk14, (.ref b17)), (fk15, (.int (3 : Int32))), (fk16, (.ref k1)), (fk17, (.ref b18)), (fk18, (.int (3 : Int32))), (fk19, (.ref k2)), (fk20, (.ref k3)), (fk21, (.ref k4)), (fk22, (.ref k5)), (fk23, (.ref k6)), (fk24, (.ref b19))]) :: e16 :: e17 :: (k1, oA .int []) :: ds)) rfl ?_
  intro T B
  refine W_retV B hret (hb hby d6_231) (by decide) ?_
  exact ⟨_, _, _, rfl, rfl⟩
theorem d6_58 : decode prog_13_method_1_code 58 = .ok (.aload_n 2, 1) := by decide +kernel
theorem d6_59 : decode prog_13_method_1_code 59 = .ok (.iload 10, 2) := by decide +kernel
theorem d6_61 : decode prog_13_method_1_code 61 = .ok (.iaload, 1) := by decide +kernel
theorem d6_62 : decode prog_13_method_1_code 62 = .ok (.iload 9, 2) := by decide +kernel
theorem d6_64 : decode prog_13_method_1_code 64 = .ok (.if_icmp .ne 18, 3) := by decide +kernel
theorem d6_67 : decode prog_13_method_1_code 67 = .ok (.aload_n 0, 1) := by decide +kernel
theorem d6_68 : decode prog_13_method_1_code 68 = .ok (.getfield 26, 3) := by decide +kernel
theorem d6_71 : decode prog_13_method_1_code 71 = .ok (.iload 9, 2) := by decide +kernel
theorem d6_73 : decode prog_13_method_1_code 73 = .ok (.iload 10, 2) := by decide +kernel
theorem d6_75 : decode prog_13_method_1_code 75 = .ok (.iinc 10 1, 3) := by decide +kernel
theorem d6_78 : decode prog_13_method_1_code 78 = .ok (.iastore, 1) := by decide +kernel
theorem d6_79 : decode prog_13_method_1_code 79 = .ok (.goto 17, 3) := by decide +kernel
theorem ef_rm_fr1 (m : MethodId) (x0 : Addr) (x2 : Addr) (x3 : Addr) (x4 : Addr) (x5 : Addr) (x6 : Addr) (x7 : Addr) : entryFrame m #[(.ref x0), (.int (3 : Int32)), (.ref x2), (.ref x3), (.ref x4), (.ref x5), (.ref x6), (.ref x7)] 13 = mkF m 0 #[.val (.ref x0), .val (.int (3 : Int32)), .val (.ref x2), .val (.ref x3), .val (.ref x4), .val (.ref x5), .val (.ref x6), .val (.ref x7), .unset, .unset, .unset, .unset, .unset] [] := by first | (simp [entryFrame, mkF, argsToLocals, Value.category]; done) | rfl
set_option maxRecDepth 65536 in
set_option maxHeartbeats 40000000 in
theorem rm_fr1 (l : Launch) (Z : State) (a0 : Array Value) (hw : ∀ d ∈ tables_1, d.before a0 Z = true) (h0 : Heap) {lo : Nat} (a1 : Addr) (k1 : Addr) (k2 : Addr) (k3 : Addr) (k4 : Addr) (k5 : Addr) (k6 : Addr) (e0 : Addr × oD) (e1 : Addr × oD) (e2 : Addr × oD) (e3 : Addr × oD) (e4 : Addr × oD) (e5 : Addr × oD) (e6 : Addr × oD) (e7 : Addr × oD) (e8 : Addr × oD) (e9 : Addr × oD) (e10 : Addr × oD) (e11 : Addr × oD) (e12 : Addr × oD) (e13 : Addr × oD) (e14 : Addr × oD) (e15 : Addr × oD) (e16 : Addr × oD) (e17 : Addr × oD) (ds : oDs) :
    oMet l Z h0 lo (⟨"com/example/tanglemark/tanglemark/datalog/FactoredRows", "<init>", "(I[I[I[ILcom/example/tanglemark/tanglemark/datalog/SharedSets;[I[I)V"⟩ : MethodName) prog_13_method_1_code 13 none [] ({ frames := 2, cells := 3, slots := 9, locals := 30 } : Room) #[(.ref a1), (.int (3 : Int32)), (.ref k1), (.ref k2), (.ref k3), (.ref k4), (.ref k5), (.ref k6)] ((k6, oA .int [o0, (.int (1 : Int32)), (.int (2 : Int32))]) :: (k5, oA .int [o0, o0]) :: e0 :: e1 :: e2 :: e3 :: e4 :: e5 :: e6 :: e7 :: e8 :: e9 :: e10 :: e11 :: e12 :: e13 :: e14 :: e15 :: (a1, oO cn3 [(fk14, .null), (fk15, (.int (0 : Int32))), (fk16, .null), (fk17, .null), (fk18, (.int (0 : Int32))), (fk19, .null), (fk20, .null), (fk21, .null), (fk22, .null), (fk23, .null), (fk24, .null)]) :: e16 :: e17 :: (k1, oA .int [o0]) :: ds) (fun (v : Option Value) (d : oDs) => (∃ (bk : Addr) (pl : Addr) (sx : Addr), v = none ∧ ((bk, oA .int [o0, (.int (1 : Int32))]) :: (pl, oA .int [o0, (.int (-1 : Int32)), (.int (-2 : Int32))]) :: (sx, oO cn2 [(fk10, (.int (0 : Int32))), (fk11, (.int (0 : Int32))), (fk12, (.int (0 : Int32))), (fk13, (.int (0 : Int32)))]) :: (k6, oA .int [o0, (.int (1 : Int32)), (.int (2 : Int32))]) :: (k5, oA .int [o0, o0]) :: e0 :: e1 :: e2 :: e3 :: e4 :: e5 :: e6 :: e7 :: e8 :: e9 :: e10 :: e11 :: e12 :: e13 :: e14 :: e15 :: (a1, oO cn3 [(fk14, (.ref sx)), (fk15, (.int (3 : Int32))), (fk16, (.ref k1)), (fk17, (.ref pl)), (fk18, (.int (2 : Int32))), (fk19, (.ref k2)), (fk20, (.ref k3)), (fk21, (.ref k4)), (fk22, (.ref k5)), (fk23, (.ref k6)), (fk24, (.ref bk))]) :: e16 :: e17 :: (k1, oA .int [o0]) :: ds) = d)) := by
  refine oMet.of_body (plainFor_of_name pn_3) ?_
  intro p e s m below meth c T B hby hml hown hnm hret
  refine W_entry (ef_rm_fr1 m a1 k1 k2 k3 k4 k5 k6) ?_
  refine W_aloadN B (hb hby d6_0) (pc' := 1) rfl rfl rfl ?_
  refine W_initO B hown (ow hw (i := 59) rfl) (ow hw (i := 19) rfl) (ow hw (i := 20) rfl) (hb hby d6_1) (pc' := 4) rfl (by rw [hml]; rfl) (W := 0) (oLe rfl) (by decide) ?_
  intro T B
  refine W_aloadN B (hb hby d6_4) (pc' := 5) rfl rfl rfl ?_
  refine W_new B hown (ow hw (i := 60) rfl) (ow hw (i := 61) rfl) (ow hw (i := 62) rfl) (hb hby d6_5) (pc' := 8) rfl (by decide) (cells' := 1) rfl (slots' := 4) rfl (fs := [(fk10, (.int (0 : Int32))), (fk11, (.int (0 : Int32))), (fk12, (.int (0 : Int32))), (fk13, (.int (0 : Int32)))]) (oAll_cons ⟨Or.inr (ow hw (i := 68) rfl), .int, by decide, rfl⟩ (oAll_cons ⟨Or.inr (ow hw (i := 70) rfl), .int, by decide, rfl⟩ (oAll_cons ⟨Or.inr (ow hw (i := 72) rfl), .int, by decide, rfl⟩ (oAll_cons ⟨Or.inr (ow hw (i := 74) rfl), .int, by decide, rfl⟩ oAll_nil)))) (by decide) ?_
  intro T b20 B
  refine W_dup B (hb hby d6_8) (pc' := 9) rfl rfl ?_
  refine W_iconst B (hb hby d6_9) (pc' := 10) rfl (z := (0 : Int32)) (by decide) ?_
  refine W_iconst B (hb hby d6_10) (pc' := 11) rfl (z := (0 : Int32)) (by decide) ?_
  refine W_iconst B (hb hby d6_11) (pc' := 12) rfl (z := (0 : Int32)) (by decide) ?_
  refine W_iconst B (hb hby d6_12) (pc' := 13) rfl (z := (0 : Int32)) (by decide) ?_
  refine W_init B (y := (⟨"com/example/tanglemark/tanglemark/datalog/FactoredRows$Stretch", "<init>", "(IIII)V"⟩ : MethodName)) hown rfl (ow hw (i := 63) rfl) (ow hw (i := 64) rfl) (ow hw (i := 62) rfl) (ow hw (i := 65) rfl) (by decide) (a := b20) (rm_st l Z a0 hw h0 b20 (0 : Int32) (0 : Int32) (0 : Int32) (0 : Int32) ((k6, oA .int [o0, (.int (1 : Int32)), (.int (2 : Int32))]) :: (k5, oA .int [o0, o0]) :: e0 :: e1 :: e2 :: e3 :: e4 :: e5 :: e6 :: e7 :: e8 :: e9 :: e10 :: e11 :: e12 :: e13 :: e14 :: e15 :: (a1, oO cn3 [(fk14, .null), (fk15, (.int (0 : Int32))), (fk16, .null), (fk17, .null), (fk18, (.int (0 : Int32))), (fk19, .null), (fk20, .null), (fk21, .null), (fk22, .null), (fk23, .null), (fk24, .null)]) :: e16 :: e17 :: (k1, oA .int [o0]) :: ds)) (lenOf pd_3 rfl) (hb hby d6_13) (pc' := 16) rfl (argsL := [(.int (0 : Int32)), (.int (0 : Int32)), (.int (0 : Int32)), (.int (0 : Int32))]) (rest := [(.ref b20), (.ref a1)]) rfl (by rw [hml]; rfl) (W := 2) (oLe rfl) (by decide) (cells' := 1) rfl (slots' := 4) rfl ?_
  intro T v_ d_ q_ B
  obtain ⟨rfl, rfl⟩ := q_
  show oWin p e below Z h0 _ _ (T.setTop (mkF m 16 #[.val (.ref a1), .val (.int (3 : Int32)), .val (.ref k1), .val (.ref k2), .val (.ref k3), .val (.ref k4), .val (.ref k5), .val (.ref k6), .unset, .unset, .unset, .unset, .unset] [(.ref b20), (.ref a1)]))
  refine W_putfield B hown (host := "") (Or.inl (ow hw (i := 75) rfl)) Via.refl (hb hby d6_16) (pc' := 19) rfl (Or.inl (ow hw (i := 76) rfl)) (ow hw (i := 2) rfl) (ty := (.object "com/example/tanglemark/tanglemark/datalog/FactoredRows$Stretch")) (by decide) rfl rfl (j := 19) rfl (q := 0) rfl (ds' := ((b20, oO cn2 [(fk10, (.int (0 : Int32))), (fk11, (.int (0 : Int32))), (fk12, (.int (0 : Int32))), (fk13, (.int (0 : Int32)))]) :: (k6, oA .int [o0, (.int (1 : Int32)), (.int (2 : Int32))]) :: (k5, oA .int [o0, o0]) :: e0 :: e1 :: e2 :: e3 :: e4 :: e5 :: e6 :: e7 :: e8 :: e9 :: e10 :: e11 :: e12 :: e13 :: e14 :: e15 :: (a1, oO cn3 [(fk14, (.ref b20)), (fk15, (.int (0 : Int32))), (fk16, .null), (fk17, .null), (fk18, (.int (0 : Int32))), (fk19, .null), (fk20, .null), (fk21, .null), (fk22, .null), (fk23, .null), (fk24, .null)]) :: e16 :: e17 :: (k1, oA .int [o0]) :: ds)) rfl ?_
  intro T B
  refine W_aloadN B (hb hby d6_19) (pc' := 20) rfl rfl rfl ?_
  refine W_iloadN B (hb hby d6_20) (pc' := 21) rfl rfl ?_
  refine W_putfield B hown (host := "") (Or.inl (ow hw (i := 77) rfl)) Via.refl (hb hby d6_21) (pc' := 24) rfl (Or.inr ⟨(ow hw (i := 78) rfl), rfl, hnm⟩) (ow hw (i := 2) rfl) (ty := .int) (by decide) rfl rfl (j := 19) rfl (q := 1) rfl (ds' := ((b20, oO cn2 [(fk10, (.int (0 : Int32))), (fk11, (.int (0 : Int32))), (fk12, (.int (0 : Int32))), (fk13, (.int (0 : Int32)))]) :: (k6, oA .int [o0, (.int (1 : Int32)), (.int (2 : Int32))]) :: (k5, oA .int [o0, o0]) :: e0 :: e1 :: e2 :: e3 :: e4 :: e5 :: e6 :: e7 :: e8 :: e9 :: e10 :: e11 :: e12 :: e13 :: e14 :: e15 :: (a1, oO cn3 [(fk14, (.ref b20)), (fk15, (.int (3 : Int32))), (fk16, .null), (fk17, .null), (fk18, (.int (0 : Int32))), (fk19, .null), (fk20, .null), (fk21, .null), (fk22, .null), (fk23, .null), (fk24, .null)]) :: e16 :: e17 :: (k1, oA .int [o0]) :: ds)) rfl ?_
  intro T B
  refine W_aloadN B (hb hby d6_24) (pc' := 25) rfl rfl rfl ?_
  refine W_aloadN B (hb hby d6_25) (pc' := 26) rfl rfl rfl ?_
  refine W_putfield B hown (host := "") (Or.inl (ow hw (i := 79) rfl)) Via.refl (hb hby d6_26) (pc' := 29) rfl (Or.inr ⟨(ow hw (i := 80) rfl), rfl, hnm⟩) (ow hw (i := 2) rfl) (ty := (.array .int)) (by decide) rfl rfl (j := 19) rfl (q := 2) rfl (ds' := ((b20, oO cn2 [(fk10, (.int (0 : Int32))), (fk11, (.int (0 : Int32))), (fk12, (.int (0 : Int32))), (fk13, (.int (0 : Int32)))]) :: (k6, oA .int [o0, (.int (1 : Int32)), (.int (2 : Int32))]) :: (k5, oA .int [o0, o0]) :: e0 :: e1 :: e2 :: e3 :: e4 :: e5 :: e6 :: e7 :: e8 :: e9 :: e10 :: e11 :: e12 :: e13 :: e14 :: e15 :: (a1, oO cn3 [(fk14, (.ref b20)), (fk15, (.int (3 : Int32))), (fk16, (.ref k1)), (fk17, .null), (fk18, (.int (0 : Int32))), (fk19, .null), (fk20, .null), (fk21, .null), (fk22, .null), (fk23, .null), (fk24, .null)]) :: e16 :: e17 :: (k1, oA .int [o0]) :: ds)) rfl ?_
  intro T B
  refine W_aloadN B (hb hby d6_29) (pc' := 30) rfl rfl rfl ?_
  refine W_iloadN B (hb hby d6_30) (pc' := 31) rfl rfl ?_
  refine W_newarray B (ow hw (i := 0) rfl) (hb hby d6_31) (pc' := 33) rfl (by decide) (cap := 3) (by decide) (by decide) (cells' := 2) rfl (slots' := 7) rfl (vs := [(.int (0 : Int32)), (.int (0 : Int32)), (.int (0 : Int32))]) rfl (ty := .int) rfl ?_
  intro T b21 B
  refine W_putfield B hown (host := "") (Or.inl (ow hw (i := 81) rfl)) Via.refl (hb hby d6_33) (pc' := 36) rfl (Or.inr ⟨(ow hw (i := 82) rfl), rfl, hnm⟩) (ow hw (i := 2) rfl) (ty := (.array .int)) (by decide) rfl rfl (j := 20) rfl (q := 3) rfl (ds' := ((b21, oA .int [o0, o0, o0]) :: (b20, oO cn2 [(fk10, (.int (0 : Int32))), (fk11, (.int (0 : Int32))), (fk12, (.int (0 : Int32))), (fk13, (.int (0 : Int32)))]) :: (k6, oA .int [o0, (.int (1 : Int32)), (.int (2 : Int32))]) :: (k5, oA .int [o0, o0]) :: e0 :: e1 :: e2 :: e3 :: e4 :: e5 :: e6 :: e7 :: e8 :: e9 :: e10 :: e11 :: e12 :: e13 :: e14 :: e15 :: (a1, oO cn3 [(fk14, (.ref b20)), (fk15, (.int (3 : Int32))), (fk16, (.ref k1)), (fk17, (.ref b21)), (fk18, (.int (0 : Int32))), (fk19, .null), (fk20, .null), (fk21, .null), (fk22, .null), (fk23, .null), (fk24, .null)]) :: e16 :: e17 :: (k1, oA .int [o0]) :: ds)) rfl ?_
  intro T B
  refine W_iconst B (hb hby d6_36) (pc' := 37) rfl (z := (0 : Int32)) (by decide) ?_
  refine W_istore B (hb hby d6_37) (pc' := 39) rfl (v := (0 : Int32)) rfl (ls' := #[.val (.ref a1), .val (.int (3 : Int32)), .val (.ref k1), .val (.ref k2), .val (.ref k3), .val (.ref k4), .val (.ref k5), .val (.ref k6), .val (.int (0 : Int32)), .unset, .unset, .unset, .unset]) rfl ?_
  refine W_iconst B (hb hby d6_39) (pc' := 40) rfl (z := (0 : Int32)) (by decide) ?_
  refine W_istore B (hb hby d6_40) (pc' := 42) rfl (v := (0 : Int32)) rfl (ls' := #[.val (.ref a1), .val (.int (3 : Int32)), .val (.ref k1), .val (.ref k2), .val (.ref k3), .val (.ref k4), .val (.ref k5), .val (.ref k6), .val (.int (0 : Int32)), .val (.int (0 : Int32)), .unset, .unset, .unset]) rfl ?_
  refine W_iconst B (hb hby d6_42) (pc' := 43) rfl (z := (0 : Int32)) (by decide) ?_
  refine W_istore B (hb hby d6_43) (pc' := 45) rfl (v := (0 : Int32)) rfl (ls' := #[.val (.ref a1), .val (.int (3 : Int32)), .val (.ref k1), .val (.ref k2), .val (.ref k3), .val (.ref k4), .val (.ref k5), .val (.ref k6), .val (.int (0 : Int32)), .val (.int (0 : Int32)), .val (.int (0 : Int32)), .unset, .unset]) rfl ?_
  refine W_iload B (hb hby d6_45) (pc' := 47) rfl rfl ?_
  refine W_iloadN B (hb hby d6_47) (pc' := 48) rfl rfl ?_
  refine W_icmpN B (hb hby d6_48) (pc' := 51) rfl (by decide) ?_
  refine W_iload B (hb hby d6_51) (pc' := 53) rfl rfl ?_
  refine W_aloadN B (hb hby d6_53) (pc' := 54) rfl rfl rfl ?_
  refine W_arraylength B (hb hby d6_54) (pc' := 55) rfl (j := 23) rfl (z := (1 : Int32)) rfl ?_
  refine W_icmpN B (hb hby d6_55) (pc' := 58) rfl (by decide) ?_
  refine W_aloadN B (hb hby d6_58) (pc' := 59) rfl rfl rfl ?_
  refine W_iload B (hb hby d6_59) (pc' := 61) rfl rfl ?_
  refine W_iaload B (hb hby d6_61) (pc' := 62) rfl (i := 23) rfl (by decide) (v := (.int (0 : Int32))) rfl ?_
  refine W_iload B (hb hby d6_62) (pc' := 64) rfl rfl ?_
  refine W_icmpN B (hb hby d6_64) (pc' := 67) rfl (by decide) ?_
  refine W_aloadN B (hb hby d6_67) (pc' := 68) rfl rfl rfl ?_
  refine W_getfield B hown (host := "") (Or.inl (ow hw (i := 81) rfl)) Via.refl (hb hby d6_68) (pc' := 71) rfl (j := 20) rfl (q := 3) rfl ?_
  intro T B
  refine W_iload B (hb hby d6_71) (pc' := 73) rfl rfl ?_
  refine W_iload B (hb hby d6_73) (pc' := 75) rfl rfl ?_
  refine W_iinc B (hb hby d6_75) (pc' := 78) rfl rfl (z := (1 : Int32)) (by decide) (ls' := #[.val (.ref a1), .val (.int (3 : Int32)), .val (.ref k1), .val (.ref k2), .val (.ref k3), .val (.ref k4), .val (.ref k5), .val (.ref k6), .val (.int (0 : Int32)), .val (.int (0 : Int32)), .val (.int (1 : Int32)), .unset, .unset]) rfl ?_
  refine W_iastore B (hb hby d6_78) (pc' := 79) rfl (i := 0) rfl (by decide) (oLt rfl) (ds' := ((b21, oA .int [o0, o0, o0]) :: (b20, oO cn2 [(fk10, (.int (0 : Int32))), (fk11, (.int (0 : Int32))), (fk12, (.int (0 : Int32))), (fk13, (.int (0 : Int32)))]) :: (k6, oA .int [o0, (.int (1 : Int32)), (.int (2 : Int32))]) :: (k5, oA .int [o0, o0]) :: e0 :: e1 :: e2 :: e3 :: e4 :: e5 :: e6 :: e7 :: e8 :: e9 :: e10 :: e11 :: e12 :: e13 :: e14 :: e15 :: (a1, oO cn3 [(fk14, (.ref b20)), (fk15, (.int (3 : Int32))), (fk16, (.ref k1)), (fk17, (.ref b21)), (fk18, (.int (0 : Int32))), (fk19, .null), (fk20, .null), (fk21, .null), (fk22, .null), (fk23, .null), (fk24, .null)]) :: e16 :: e17 :: (k1, oA .int [o0]) :: ds)) rfl ?_
  intro T B
  refine W_goto B (hb hby d6_79) (by decide) (pc' := 96) (by decide) ?_
  refine W_iinc B (hb hby d6_96) (pc' := 99) rfl rfl (z := (1 : Int32)) (by decide) (ls' := #[.val (.ref a1), .val (.int (3 : Int32)), .val (.ref k1), .val (.ref k2), .val (.ref k3), .val (.ref k4), .val (.ref k5), .val (.ref k6), .val (.int (0 : Int32)), .val (.int (1 : Int32)), .val (.int (1 : Int32)), .unset, .unset]) rfl ?_
  refine W_goto B (hb hby d6_99) (by decide) (pc' := 45) (by decide) ?_
  refine W_iload B (hb hby d6_45) (pc' := 47) rfl rfl ?_
  refine W_iloadN B (hb hby d6_47) (pc' := 48) rfl rfl ?_
  refine W_icmpN B (hb hby d6_48) (pc' := 51) rfl (by decide) ?_
  refine W_iload B (hb hby d6_51) (pc' := 53) rfl rfl ?_
  refine W_aloadN B (hb hby d6_53) (pc' := 54) rfl rfl rfl ?_
  refine W_arraylength B (hb hby d6_54) (pc' := 55) rfl (j := 23) rfl (z := (1 : Int32)) rfl ?_
  refine W_icmpY B (hb hby d6_55) (by decide) (pc' := 82) (by decide) (by decide) ?_
  refine W_aloadN B (hb hby d6_82) (pc' := 83) rfl rfl rfl ?_
  refine W_getfield B hown (host := "") (Or.inl (ow hw (i := 81) rfl)) Via.refl (hb hby d6_83) (pc' := 86) rfl (j := 20) rfl (q := 3) rfl ?_
  intro T B
  refine W_iload B (hb hby d6_86) (pc' := 88) rfl rfl ?_
  refine W_iconst B (hb hby d6_88) (pc' := 89) rfl (z := (-1 : Int32)) (by decide) ?_
  refine W_iload B (hb hby d6_89) (pc' := 91) rfl rfl ?_
  refine W_iinc B (hb hby d6_91) (pc' := 94) rfl rfl (z := (1 : Int32)) (by decide) (ls' := #[.val (.ref a1), .val (.int (3 : Int32)), .val (.ref k1), .val (.ref k2), .val (.ref k3), .val (.ref k4), .val (.ref k5), .val (.ref k6), .val (.int (1 : Int32)), .val (.int (1 : Int32)), .val (.int (1 : Int32)), .unset, .unset]) rfl ?_
  refine W_isub B (hb hby d6_94) (pc' := 95) rfl (z := (-1 : Int32)) (by decide) ?_
  refine W_iastore B (hb hby d6_95) (pc' := 96) rfl (i := 0) rfl (by decide) (oLt rfl) (ds' := ((b21, oA .int [o0, (.int (-1 : Int32)), o0]) :: (b20, oO cn2 [(fk10, (.int (0 : Int32))), (fk11, (.int (0 : Int32))), (fk12, (.int (0 : Int32))), (fk13, (.int (0 : Int32)))]) :: (k6, oA .int [o0, (.int (1 : Int32)), (.int (2 : Int32))]) :: (k5, oA .int [o0, o0]) :: e0 :: e1 :: e2 :: e3 :: e4 :: e5 :: e6 :: e7 :: e8 :: e9 :: e10 :: e11 :: e12 :: e13 :: e14 :: e15 :: (a1, oO cn3 [(fk14, (.ref b20)), (fk15, (.int (3 : Int32))), (fk16, (.ref k1)), (fk17, (.ref b21)), (fk18, (.int (0 : Int32))), (fk19, .null), (fk20, .null), (fk21, .null), (fk22, .null), (fk23, .null), (fk24, .null)]) :: e16 :: e17 :: (k1, oA .int [o0]) :: ds)) rfl ?_
  intro T B
  refine W_iinc B (hb hby d6_96) (pc' := 99) rfl rfl (z := (2 : Int32)) (by decide) (ls' := #[.val (.ref a1), .val (.int (3 : Int32)), .val (.ref k1), .val (.ref k2), .val (.ref k3), .val (.ref k4), .val (.ref k5), .val (.ref k6), .val (.int (1 : Int32)), .val (.int (2 : Int32)), .val (.int (1 : Int32)), .unset, .unset]) rfl ?_
  refine W_goto B (hb hby d6_99) (by decide) (pc' := 45) (by decide) ?_
  refine W_iload B (hb hby d6_45) (pc' := 47) rfl rfl ?_
  refine W_iloadN B (hb hby d6_47) (pc' := 48) rfl rfl ?_
  refine W_icmpN B (hb hby d6_48) (pc' := 51) rfl (by decide) ?_
  refine W_iload B (hb hby d6_51) (pc' := 53) rfl rfl ?_
  refine W_aloadN B (hb hby d6_53) (pc' := 54) rfl rfl rfl ?_
  refine W_arraylength B (hb hby d6_54) (pc' := 55) rfl (j := 23) rfl (z := (1 : Int32)) rfl ?_
  refine W_icmpY B (hb hby d6_55) (by decide) (pc' := 82) (by decide) (by decide) ?_
  refine W_aloadN B (hb hby d6_82) (pc' := 83) rfl rfl rfl ?_
  refine W_getfield B hown (host := "") (Or.inl (ow hw (i := 81) rfl)) Via.refl (hb hby d6_83) (pc' := 86) rfl (j := 20) rfl (q := 3) rfl ?_
  intro T B
  refine W_iload B (hb hby d6_86) (pc' := 88) rfl rfl ?_
  refine W_iconst B (hb hby d6_88) (pc' := 89) rfl (z := (-1 : Int32)) (by decide) ?_
  refine W_iload B (hb hby d6_89) (pc' := 91) rfl rfl ?_
  refine W_iinc B (hb hby d6_91) (pc' := 94) rfl rfl (z := (2 : Int32)) (by decide) (ls' := #[.val (.ref a1), .val (.int (3 : Int32)), .val (.ref k1), .val (.ref k2), .val (.ref k3), .val (.ref k4), .val (.ref k5), .val (.ref k6), .val (.int (2 : Int32)), .val (.int (2 : Int32)), .val (.int (1 : Int32)), .unset, .unset]) rfl ?_
  refine W_isub B (hb hby d6_94) (pc' := 95) rfl (z := (-2 : Int32)) (by decide) ?_
  refine W_iastore B (hb hby d6_95) (pc' := 96) rfl (i := 0) rfl (by decide) (oLt rfl) (ds' := ((b21, oA .int [o0, (.int (-1 : Int32)), (.int (-2 : Int32))]) :: (b20, oO cn2 [(fk10, (.int (0 : Int32))), (fk11, (.int (0 : Int32))), (fk12, (.int (0 : Int32))), (fk13, (.int (0 : Int32)))]) :: (k6, oA .int [o0, (.int (1 : Int32)), (.int (2 : Int32))]) :: (k5, oA .int [o0, o0]) :: e0 :: e1 :: e2 :: e3 :: e4 :: e5 :: e6 :: e7 :: e8 :: e9 :: e10 :: e11 :: e12 :: e13 :: e14 :: e15 :: (a1, oO cn3 [(fk14, (.ref b20)), (fk15, (.int (3 : Int32))), (fk16, (.ref k1)), (fk17, (.ref b21)), (fk18, (.int (0 : Int32))), (fk19, .null), (fk20, .null), (fk21, .null), (fk22, .null), (fk23, .null), (fk24, .null)]) :: e16 :: e17 :: (k1, oA .int [o0]) :: ds)) rfl ?_
  intro T B
  refine W_iinc B (hb hby d6_96) (pc' := 99) rfl rfl (z := (3 : Int32)) (by decide) (ls' := #[.val (.ref a1), .val (.int (3 : Int32)), .val (.ref k1), .val (.ref k2), .val (.ref k3), .val (.ref k4), .val (.ref k5), .val (.ref k6), .val (.int (2 : Int32)), .val (.int (3 : Int32)), .val (.int (1 : Int32)), .unset, .unset]) rfl ?_
  refine W_goto B (hb hby d6_99) (by decide) (pc' := 45) (by decide) ?_
  refine W_iload B (hb hby d6_45) (pc' := 47) rfl rfl ?_
  refine W_iloadN B (hb hby d6_47) (pc' := 48) rfl rfl ?_
  refine W_icmpY B (hb hby d6_48) (by decide) (pc' := 102) (by decide) (by decide) ?_
  refine W_aloadN B (hb hby d6_102) (pc' := 103) rfl rfl rfl ?_
  refine W_iload B (hb hby d6_103) (pc' := 105) rfl rfl ?_
  refine W_putfield B hown (host := "") (Or.inl (ow hw (i := 83) rfl)) Via.refl (hb hby d6_105) (pc' := 108) rfl (Or.inr ⟨(ow hw (i := 84) rfl), rfl, hnm⟩) (ow hw (i := 2) rfl) (ty := .int) (by decide) rfl rfl (j := 20) rfl (q := 4) rfl (ds' := ((b21, oA .int [o0, (.int (-1 : Int32)), (.int (-2 : Int32))]) :: (b20, oO cn2 [(fk10, (.int (0 : Int32))), (fk11, (.int (0 : Int32))), (fk12, (.int (0 : Int32))), (fk13, (.int (0 : Int32)))]) :: (k6, oA .int [o0, (.int (1 : Int32)), (.int (2 : Int32))]) :: (k5, oA .int [o0, o0]) :: e0 :: e1 :: e2 :: e3 :: e4 :: e5 :: e6 :: e7 :: e8 :: e9 :: e10 :: e11 :: e12 :: e13 :: e14 :: e15 :: (a1, oO cn3 [(fk14, (.ref b20)), (fk15, (.int (3 : Int32))), (fk16, (.ref k1)), (fk17, (.ref b21)), (fk18, (.int (2 : Int32))), (fk19, .null), (fk20, .null), (fk21, .null), (fk22, .null), (fk23, .null), (fk24, .null)]) :: e16 :: e17 :: (k1, oA .int [o0]) :: ds)) rfl ?_
  intro T B
  refine W_aloadN B (hb hby d6_108) (pc' := 109) rfl rfl rfl ?_
  refine W_aloadN B (hb hby d6_109) (pc' := 110) rfl rfl rfl ?_
  refine W_putfield B hown (host := "") (Or.inl (ow hw (i := 85) rfl)) Via.refl (hb hby d6_110) (pc' := 113) rfl (Or.inr ⟨(ow hw (i := 86) rfl), rfl, hnm⟩) (ow hw (i := 2) rfl) (ty := (.array .int)) (by decide) rfl rfl (j := 20) rfl (q := 5) rfl (ds' := ((b21, oA .int [o0, (.int (-1 : Int32)), (.int (-2 : Int32))]) :: (b20, oO cn2 [(fk10, (.int (0 : Int32))), (fk11, (.int (0 : Int32))), (fk12, (.int (0 : Int32))), (fk13, (.int (0 : Int32)))]) :: (k6, oA .int [o0, (.int (1 : Int32)), (.int (2 : Int32))]) :: (k5, oA .int [o0, o0]) :: e0 :: e1 :: e2 :: e3 :: e4 :: e5 :: e6 :: e7 :: e8 :: e9 :: e10 :: e11 :: e12 :: e13 :: e14 :: e15 :: (a1, oO cn3 [(fk14, (.ref b20)), (fk15, (.int (3 : Int32))), (fk16, (.ref k1)), (fk17, (.ref b21)), (fk18, (.int (2 : Int32))), (fk19, (.ref k2)), (fk20, .null), (fk21, .null), (fk22, .null), (fk23, .null), (fk24, .null)]) :: e16 :: e17 :: (k1, oA .int [o0]) :: ds)) rfl ?_
  intro T B
  refine W_aloadN B (hb hby d6_113) (pc' := 114) rfl rfl rfl ?_
  refine W_aload B (hb hby d6_114) (pc' := 116) rfl rfl rfl ?_
  refine W_putfield B hown (host := "") (Or.inl (ow hw (i := 87) rfl)) Via.refl (hb hby d6_116) (pc' := 119) rfl (Or.inr ⟨(ow hw (i := 88) rfl), rfl, hnm⟩) (ow hw (i := 2) rfl) (ty := (.array .int)) (by decide) rfl rfl (j := 20) rfl (q := 6) rfl (ds' := ((b21, oA .int [o0, (.int (-1 : Int32)), (.int (-2 : Int32))]) :: (b20, oO cn2 [(fk10, (.int (0 : Int32))), (fk11, (.int (0 : Int32))), (fk12, (.int (0 : Int32))), (fk13, (.int (0 : Int32)))]) :: (k6, oA .int [o0, (.int (1 : Int32)), (.int (2 : Int32))]) :: (k5, oA .int [o0, o0]) :: e0 :: e1 :: e2 :: e3 :: e4 :: e5 :: e6 :: e7 :: e8 :: e9 :: e10 :: e11 :: e12 :: e13 :: e14 :: e15 :: (a1, oO cn3 [(fk14, (.ref b20)), (fk15, (.int (3 : Int32))), (fk16, (.ref k1)), (fk17, (.ref b21)), (fk18, (.int (2 : Int32))), (fk19, (.ref k2)), (fk20, (.ref k3)), (fk21, .null), (fk22, .null), (fk23, .null), (fk24, .null)]) :: e16 :: e17 :: (k1, oA .int [o0]) :: ds)) rfl ?_
  intro T B
  refine W_aloadN B (hb hby d6_119) (pc' := 120) rfl rfl rfl ?_
  refine W_aload B (hb hby d6_120) (pc' := 122) rfl rfl rfl ?_
  refine W_putfield B hown (host := "") (Or.inl (ow hw (i := 89) rfl)) Via.refl (hb hby d6_122) (pc' := 125) rfl (Or.inr ⟨(ow hw (i := 90) rfl), rfl, hnm⟩) (ow hw (i := 2) rfl) (ty := (.object "com/example/tanglemark/tanglemark/datalog/SharedSets")) (by decide) rfl rfl (j := 20) rfl (q := 7) rfl (ds' := ((b21, oA .int [o0, (.int (-1 : Int32)), (.int (-2 : Int32))]) :: (b20, oO cn2 [(fk10, (.int (0 : Int32))), (fk11, (.int (0 : Int32))), (fk12, (.int (0 : Int32))), (fk13, (.int (0 : Int32)))]) :: (k6, oA .int [o0, (.int (1 : Int32)), (.int (2 : Int32))]) :: (k5, oA .int [o0, o0]) :: e0 :: e1 :: e2 :: e3 :: e4 :: e5 :: e6 :: e7 :: e8 :: e9 :: e10 :: e11 :: e12 :: e13 :: e14 :: e15 :: (a1, oO cn3 [(fk14, (.ref b20)), (fk15, (.int (3 : Int32))), (fk16, (.ref k1)), (fk17, (.ref b21)), (fk18, (.int (2 : Int32))), (fk19, (.ref k2)), (fk20, (.ref k3)), (fk21, (.ref k4)), (fk22, .null), (fk23, .null), (fk24, .null)]) :: e16 :: e17 :: (k1, oA .int [o0]) :: ds)) rfl ?_
  intro T B
  refine W_aloadN B (hb hby d6_125) (pc' := 126) rfl rfl rfl ?_
  refine W_aload B (hb hby d6_126) (pc' := 128) rfl rfl rfl ?_
  refine W_putfield B hown (host := "") (Or.inl (ow hw (i := 91) rfl)) Via.refl (hb hby d6_128) (pc' := 131) rfl (Or.inr ⟨(ow hw (i := 92) rfl), rfl, hnm⟩) (ow hw (i := 2) rfl) (ty := (.array .int)) (by decide) rfl rfl (j := 20) rfl (q := 8) rfl (ds' := ((b21, oA .int [o0, (.int (-1 : Int32)), (.int (-2 : Int32))]) :: (b20, oO cn2 [(fk10, (.int (0 : Int32))), (fk11, (.int (0 : Int32))), (fk12, (.int (0 : Int32))), (fk13, (.int (0 : Int32)))]) :: (k6, oA .int [o0, (.int (1 : Int32)), (.int (2 : Int32))]) :: (k5, oA .int [o0, o0]) :: e0 :: e1 :: e2 :: e3 :: e4 :: e5 :: e6 :: e7 :: e8 :: e9 :: e10 :: e11 :: e12 :: e13 :: e14 :: e15 :: (a1, oO cn3 [(fk14, (.ref b20)), (fk15, (.int (3 : Int32))), (fk16, (.ref k1)), (fk17, (.ref b21)), (fk18, (.int (2 : Int32))), (fk19, (.ref k2)), (fk20, (.ref k3)), (fk21, (.ref k4)), (fk22, (.ref k5)), (fk23, .null), (fk24, .null)]) :: e16 :: e17 :: (k1, oA .int [o0]) :: ds)) rfl ?_
  intro T B
  refine W_aloadN B (hb hby d6_131) (pc' := 132) rfl rfl rfl ?_
  refine W_aload B (hb hby d6_132) (pc' := 134) rfl rfl rfl ?_
  refine W_putfield B hown (host := "") (Or.inl (ow hw (i := 93) rfl)) Via.refl (hb hby d6_134) (pc' := 137) rfl (Or.inr ⟨(ow hw (i := 94) rfl), rfl, hnm⟩) (ow hw (i := 2) rfl) (ty := (.array .int)) (by decide) rfl rfl (j := 20) rfl (q := 9) rfl (ds' := ((b21, oA .int [o0, (.int (-1 : Int32)), (.int (-2 : Int32))]) :: (b20, oO cn2 [(fk10, (.int (0 : Int32))), (fk11, (.int (0 : Int32))), (fk12, (.int (0 : Int32))), (fk13, (.int (0 : Int32)))]) :: (k6, oA .int [o0, (.int (1 : Int32)), (.int (2 : Int32))]) :: (k5, oA .int [o0, o0]) :: e0 :: e1 :: e2 :: e3 :: e4 :: e5 :: e6 :: e7 :: e8 :: e9 :: e10 :: e11 :: e12 :: e13 :: e14 :: e15 :: (a1, oO cn3 [(fk14, (.ref b20)), (fk15, (.int (3 : Int32))), (fk16, (.ref k1)), (fk17, (.ref b21)), (fk18, (.int (2 : Int32))), (fk19, (.ref k2)), (fk20, (.ref k3)), (fk21, (.ref k4)), (fk22, (.ref k5)), (fk23, (.ref k6)), (fk24, .null)]) :: e16 :: e17 :: (k1, oA .int [o0]) :: ds)) rfl ?_
  intro T B
  refine W_aload B (hb hby d6_137) (pc' := 139) rfl rfl rfl ?_
  refine W_aload B (hb hby d6_139) (pc' := 141) rfl rfl rfl ?_
  refine W_arraylength B (hb hby d6_141) (pc' := 142) rfl (j := 3) rfl (z := (2 : Int32)) rfl ?_
  refine W_iaload B (hb hby d6_142) (pc' := 143) rfl (i := 2) rfl (by decide) (v := (.int (2 : Int32))) rfl ?_
  refine W_istore B (hb hby d6_143) (pc' := 145) rfl (v := (2 : Int32)) rfl (ls' := #[.val (.ref a1), .val (.int (3 : Int32)), .val (.ref k1), .val (.ref k2), .val (.ref k3), .val (.ref k4), .val (.ref k5), .val (.ref k6), .val (.int (2 : Int32)), .val (.int (2 : Int32)), .val (.int (1 : Int32)), .unset, .unset]) rfl ?_
  refine W_iload B (hb hby d6_145) (pc' := 147) rfl rfl ?_
  refine W_i2l B (hb hby d6_147) (pc' := 148) rfl (z := (2 : Int64)) (by decide) ?_
  refine W_ldc2Long B hown (ow hw (i := 95) rfl) (hb hby d6_148) (pc' := 151) rfl ?_
  refine W_ladd B (hb hby d6_151) (pc' := 152) rfl (z := (66 : Int64)) (by decide) ?_
  refine W_lconst B (hb hby d6_152) (pc' := 153) rfl (z := (1 : Int64)) (by decide) ?_
  refine W_lsub B (hb hby d6_153) (pc' := 154) rfl (z := (65 : Int64)) (by decide) ?_
  refine W_bipush B (hb hby d6_154) (pc' := 156) rfl (z := (6 : Int32)) (by decide) ?_
  refine W_lushr B (hb hby d6_156) (pc' := 157) rfl (z := (1 : Int64)) (by decide) ?_
  refine W_l2i B (hb hby d6_157) (pc' := 158) rfl (z := (1 : Int32)) (by decide) ?_
  refine W_istore B (hb hby d6_158) (pc' := 160) rfl (v := (1 : Int32)) rfl (ls' := #[.val (.ref a1), .val (.int (3 : Int32)), .val (.ref k1), .val (.ref k2), .val (.ref k3), .val (.ref k4), .val (.ref k5), .val (.ref k6), .val (.int (2 : Int32)), .val (.int (2 : Int32)), .val (.int (1 : Int32)), .unset, .unset]) rfl ?_
  refine W_aloadN B (hb hby d6_160) (pc' := 161) rfl rfl rfl ?_
  refine W_iload B (hb hby d6_161) (pc' := 163) rfl rfl ?_
  refine W_iconst B (hb hby d6_163) (pc' := 164) rfl (z := (1 : Int32)) (by decide) ?_
  refine W_iadd B (hb hby d6_164) (pc' := 165) rfl (z := (2 : Int32)) (by decide) ?_
  refine W_newarray B (ow hw (i := 0) rfl) (hb hby d6_165) (pc' := 167) rfl (by decide) (cap := 2) (by decide) (by decide) (cells' := 3) rfl (slots' := 9) rfl (vs := [(.int (0 : Int32)), (.int (0 : Int32))]) rfl (ty := .int) rfl ?_
  intro T b22 B
  refine W_putfield B hown (host := "") (Or.inl (ow hw (i := 96) rfl)) Via.refl (hb hby d6_167) (pc' := 170) rfl (Or.inr ⟨(ow hw (i := 97) rfl), rfl, hnm⟩) (ow hw (i := 2) rfl) (ty := (.array .int)) (by decide) rfl rfl (j := 21) rfl (q := 10) rfl (ds' := ((b22, oA .int [o0, o0]) :: (b21, oA .int [o0, (.int (-1 : Int32)), (.int (-2 : Int32))]) :: (b20, oO cn2 [(fk10, (.int (0 : Int32))), (fk11, (.int (0 : Int32))), (fk12, (.int (0 : Int32))), (fk13, (.int (0 : Int32)))]) :: (k6, oA .int [o0, (.int (1 : Int32)), (.int (2 : Int32))]) :: (k5, oA .int [o0, o0]) :: e0 :: e1 :: e2 :: e3 :: e4 :: e5 :: e6 :: e7 :: e8 :: e9 :: e10 :: e11 :: e12 :: e13 :: e14 :: e15 :: (a1, oO cn3 [(fk14, (.ref b20)), (fk15, (.int (3 : Int32))), (fk16, (.ref k1)), (fk17, (.ref b21)), (fk18, (.int (2 : Int32))), (fk19, (.ref k2)), (fk20, (.ref k3)), (fk21, (.ref k4)), (fk22, (.ref k5)), (fk23, (.ref k6)), (fk24, (.ref b22))]) :: e16 :: e17 :: (k1, oA .int [o0]) :: ds)) rfl ?_
  intro T B
  refine W_iconst B (hb hby d6_170) (pc' := 171) rfl (z := (0 : Int32)) (by decide) ?_
  refine W_istore B (hb hby d6_171) (pc' := 173) rfl (v := (0 : Int32)) rfl (ls' := #[.val (.ref a1), .val (.int (3 : Int32)), .val (.ref k1), .val (.ref k2), .val (.ref k3), .val (.ref k4), .val (.ref k5), .val (.ref k6), .val (.int (2 : Int32)), .val (.int (2 : Int32)), .val (.int (1 : Int32)), .val (.int (0 : Int32)), .unset]) rfl ?_
  refine W_iconst B (hb hby d6_173) (pc' := 174) rfl (z := (0 : Int32)) (by decide) ?_
  refine W_istore B (hb hby d6_174) (pc' := 176) rfl (v := (0 : Int32)) rfl (ls' := #[.val (.ref a1), .val (.int (3 : Int32)), .val (.ref k1), .val (.ref k2), .val (.ref k3), .val (.ref k4), .val (.ref k5), .val (.ref k6), .val (.int (2 : Int32)), .val (.int (2 : Int32)), .val (.int (1 : Int32)), .val (.int (0 : Int32)), .val (.int (0 : Int32))]) rfl ?_
  refine W_iload B (hb hby d6_176) (pc' := 178) rfl rfl ?_
  refine W_iload B (hb hby d6_178) (pc' := 180) rfl rfl ?_
  refine W_icmpN B (hb hby d6_180) (pc' := 183) rfl (by decide) ?_
  refine W_aload B (hb hby d6_183) (pc' := 185) rfl rfl rfl ?_
  refine W_iload B (hb hby d6_185) (pc' := 187) rfl rfl ?_
  refine W_iconst B (hb hby d6_187) (pc' := 188) rfl (z := (1 : Int32)) (by decide) ?_
  refine W_iadd B (hb hby d6_188) (pc' := 189) rfl (z := (1 : Int32)) (by decide) ?_
  refine W_iaload B (hb hby d6_189) (pc' := 190) rfl (i := 3) rfl (by decide) (v := (.int (1 : Int32))) rfl ?_
  refine W_iload B (hb hby d6_190) (pc' := 192) rfl rfl ?_
  refine W_bipush B (hb hby d6_192) (pc' := 194) rfl (z := (6 : Int32)) (by decide) ?_
  refine W_ishl B (hb hby d6_194) (pc' := 195) rfl (z := (0 : Int32)) (by decide) ?_
  refine W_icmpY B (hb hby d6_195) (by decide) (pc' := 204) (by decide) (by decide) ?_
  refine W_aloadN B (hb hby d6_204) (pc' := 205) rfl rfl rfl ?_
  refine W_getfield B hown (host := "") (Or.inl (ow hw (i := 96) rfl)) Via.refl (hb hby d6_205) (pc' := 208) rfl (j := 21) rfl (q := 10) rfl ?_
  intro T B
  refine W_iload B (hb hby d6_208) (pc' := 210) rfl rfl ?_
  refine W_iload B (hb hby d6_210) (pc' := 212) rfl rfl ?_
  refine W_iastore B (hb hby d6_212) (pc' := 213) rfl (i := 0) rfl (by decide) (oLt rfl) (ds' := ((b22, oA .int [o0, o0]) :: (b21, oA .int [o0, (.int (-1 : Int32)), (.int (-2 : Int32))]) :: (b20, oO cn2 [(fk10, (.int (0 : Int32))), (fk11, (.int (0 : Int32))), (fk12, (.int (0 : Int32))), (fk13, (.int (0 : Int32)))]) :: (k6, oA .int [o0, (.int (1 : Int32)), (.int (2 : Int32))]) :: (k5, oA .int [o0, o0]) :: e0 :: e1 :: e2 :: e3 :: e4 :: e5 :: e6 :: e7 :: e8 :: e9 :: e10 :: e11 :: e12 :: e13 :: e14 :: e15 :: (a1, oO cn3 [(fk14, (.ref b20)), (fk15, (.int (3 : Int32))), (fk16, (.ref k1)), (fk17, (.ref b21)), (fk18, (.int (2 : Int32))), (fk19, (.ref k2)), (fk20, (.ref k3)), (fk21, (.ref k4)), (fk22, (.ref k5)), (fk23, (.ref k6)), (fk24, (.ref b22))]) :: e16 :: e17 :: (k1, oA .int [o0]) :: ds)) rfl ?_
  intro T B
  refine W_iinc B (hb hby d6_213) (pc' := 216) rfl rfl (z := (1 : Int32)) (by decide) (ls' := #[.val (.ref a1), .val (.int (3 : Int32)), .val (.ref k1), .val (.ref k2), .val (.ref k3), .val (.ref k4), .val (.ref k5), .val (.ref k6), .val (.int (2 : Int32)), .val (.int (2 : Int32)), .val (.int (1 : Int32)), .val (.int (0 : Int32)), .val (.int (1 : Int32))]) rfl ?_
  refine W_goto B (hb hby d6_216) (by decide) (pc' := 176) (by decide) ?_
  refine W_iload B (hb hby d6_176) (pc' := 178) rfl rfl ?_
  refine W_iload B (hb hby d6_178) (pc' := 180) rfl rfl ?_
  refine W_icmpY B (hb hby d6_180) (by decide) (pc' := 219) (by decide) (by decide) ?_
  refine W_aloadN B (hb hby d6_219) (pc' := 220) rfl rfl rfl ?_
  refine W_getfield B hown (host := "") (Or.inl (ow hw (i := 96) rfl)) Via.refl (hb hby d6_220) (pc' := 223) rfl (j := 21) rfl (q := 10) rfl ?_
  intro T B
  refine W_iload B (hb hby d6_223) (pc' := 225) rfl rfl ?_
  refine W_aload B (hb hby d6_225) (pc' := 227) rfl rfl rfl ?_
  refine W_arraylength B (hb hby d6_227) (pc' := 228) rfl (j := 4) rfl (z := (2 : Int32)) rfl ?_
  refine W_iconst B (hb hby d6_228) (pc' := 229) rfl (z := (1 : Int32)) (by decide) ?_
  refine W_isub B (hb hby d6_229) (pc' := 230) rfl (z := (1 : Int32)) (by decide) ?_
  refine W_iastore B (hb hby d6_230) (pc' := 231) rfl (i := 0) rfl (by decide) (oLt rfl) (ds' := ((b22, oA .int [o0, (.int (1 : Int32))]) :: (b21, oA .int [o0, (.int (-1 : Int32)), (.int (-2 : Int32))]) :: (b20, oO cn2 [(fk10, (.int (0 : Int32))), (fk11, (.int (0 : Int32))), (fk12, (.int (0 : Int32))), (fk13, (.int (0 : Int32)))]) :: (k6, oA .int [o0, (.int (1 : Int32)), (.int (2 : Int32))]) :: (k5, oA .int [o0, o0]) :: e0 :: e1 :: e2 :: e3 :: e4 :: e5 :: e6 :: e7 :: e8 :: e9 :: e10 :: e11 :: e12 :: e13 :: e14 :: e15 :: (a1, oO cn3 [(fk14, (.ref b20)), (fk15, (.int (3 : Int32))), (fk16, (.ref k1)), (fk17, (.ref b21)), (fk18, (.int (2 : Int32))), (fk19, (.ref k2)), (fk20, (.ref k3)), (fk21, (.ref k4)), (fk22, (.ref k5)), (fk23, (.ref k6)), (fk24, (.ref b22))]) :: e16 :: e17 :: (k1, oA .int [o0]) :: ds)) rfl ?_
  intro T B
  refine W_retV B hret (hb hby d6_231) (by decide) ?_
  exact ⟨_, _, _, rfl, rfl⟩
theorem ef_rm_fr2 (m : MethodId) (x0 : Addr) (x2 : Addr) (x3 : Addr) (x4 : Addr) (x5 : Addr) (x6 : Addr) (x7 : Addr) : entryFrame m #[(.ref x0), (.int (3 : Int32)), (.ref x2), (.ref x3), (.ref x4), (.ref x5), (.ref x6), (.ref x7)] 13 = mkF m 0 #[.val (.ref x0), .val (.int (3 : Int32)), .val (.ref x2), .val (.ref x3), .val (.ref x4), .val (.ref x5), .val (.ref x6), .val (.ref x7), .unset, .unset, .unset, .unset, .unset] [] := by first | (simp [entryFrame, mkF, argsToLocals, Value.category]; done) | rfl
set_option maxRecDepth 65536 in
set_option maxHeartbeats 40000000 in
theorem rm_fr2 (l : Launch) (Z : State) (a0 : Array Value) (hw : ∀ d ∈ tables_1, d.before a0 Z = true) (h0 : Heap) {lo : Nat} (a1 : Addr) (k1 : Addr) (k2 : Addr) (k3 : Addr) (k4 : Addr) (k5 : Addr) (k6 : Addr) (e0 : Addr × oD) (e1 : Addr × oD) (e2 : Addr × oD) (e3 : Addr × oD) (e4 : Addr × oD) (e5 : Addr × oD) (e6 : Addr × oD) (e7 : Addr × oD) (e8 : Addr × oD) (e9 : Addr × oD) (e10 : Addr × oD) (e11 : Addr × oD) (e12 : Addr × oD) (e13 : Addr × oD) (e14 : Addr × oD) (e15 : Addr × oD) (e16 : Addr × oD) (e17 : Addr × oD) (ds : oDs) :
    oMet l Z h0 lo (⟨"com/example/tanglemark/tanglemark/datalog/FactoredRows", "<init>", "(I[I[I[ILcom/example/tanglemark/tanglemark/datalog/SharedSets;[I[I)V"⟩ : MethodName) prog_13_method_1_code 13 none [] ({ frames := 2, cells := 3, slots := 9, locals := 30 } : Room) #[(.ref a1), (.int (3 : Int32)), (.ref k1), (.ref k2), (.ref k3), (.ref k4), (.ref k5), (.ref k6)] ((k6, oA .int [o0, (.int (1 : Int32)), (.int (2 : Int32))]) :: (k5, oA .int [o0, o0]) :: e0 :: e1 :: e2 :: e3 :: e4 :: e5 :: e6 :: e7 :: e8 :: e9 :: e10 :: e11 :: e12 :: e13 :: e14 :: e15 :: (a1, oO cn3 [(fk14, .null), (fk15, (.int (0 : Int32))), (fk16, .null), (fk17, .null), (fk18, (.int (0 : Int32))), (fk19, .null), (fk20, .null), (fk21, .null), (fk22, .null), (fk23, .null), (fk24, .null)]) :: e16 :: e17 :: (k1, oA .int [o0, (.int (1 : Int32))]) :: ds) (fun (v : Option Value) (d : oDs) => (∃ (bk : Addr) (pl : Addr) (sx : Addr), v = none ∧ ((bk, oA .int [o0, (.int (1 : Int32))]) :: (pl, oA .int [o0, (.int (1 : Int32)), (.int (-1 : Int32))]) :: (sx, oO cn2 [(fk10, (.int (0 : Int32))), (fk11, (.int (0 : Int32))), (fk12, (.int (0 : Int32))), (fk13, (.int (0 : Int32)))]) :: (k6, oA .int [o0, (.int (1 : Int32)), (.int (2 : Int32))]) :: (k5, oA .int [o0, o0]) :: e0 :: e1 :: e2 :: e3 :: e4 :: e5 :: e6 :: e7 :: e8 :: e9 :: e10 :: e11 :: e12 :: e13 :: e14 :: e15 :: (a1, oO cn3 [(fk14, (.ref sx)), (fk15, (.int (3 : Int32))), (fk16, (.ref k1)), (fk17, (.ref pl)), (fk18, (.int (1 : Int32))), (fk19, (.ref k2)), (fk20, (.ref k3)), (fk21, (.ref k4)), (fk22, (.ref k5)), (fk23, (.ref k6)), (fk24, (.ref bk))]) :: e16 :: e17 :: (k1, oA .int [o0, (.int (1 : Int32))]) :: ds) = d)) := by
  refine oMet.of_body (plainFor_of_name pn_3) ?_
  intro p e s m below meth c T B hby hml hown hnm hret
  refine W_entry (ef_rm_fr2 m a1 k1 k2 k3 k4 k5 k6) ?_
  refine W_aloadN B (hb hby d6_0) (pc' := 1) rfl rfl rfl ?_
  refine W_initO B hown (ow hw (i := 59) rfl) (ow hw (i := 19) rfl) (ow hw (i := 20) rfl) (hb hby d6_1) (pc' := 4) rfl (by rw [hml]; rfl) (W := 0) (oLe rfl) (by decide) ?_
  intro T B
  refine W_aloadN B (hb hby d6_4) (pc' := 5) rfl rfl rfl ?_
  refine W_new B hown (ow hw (i := 60) rfl) (ow hw (i := 61) rfl) (ow hw (i := 62) rfl) (hb hby d6_5) (pc' := 8) rfl (by decide) (cells' := 1) rfl (slots' := 4) rfl (fs := [(fk10, (.int (0 : Int32))), (fk11, (.int (0 : Int32))), (fk12, (.int (0 : Int32))), (fk13, (.int (0 : Int32)))]) (oAll_cons ⟨Or.inr (ow hw (i := 68) rfl), .int, by decide, rfl⟩ (oAll_cons ⟨Or.inr (ow hw (i := 70) rfl), .int, by decide, rfl⟩ (oAll_cons ⟨Or.inr (ow hw (i := 72) rfl), .int, by decide, rfl⟩ (oAll_cons ⟨Or.inr (ow hw (i := 74) rfl), .int, by decide, rfl⟩ oAll_nil)))) (by decide) ?_
  intro T b23 B
  refine W_dup B (hb hby d6_8) (pc' := 9) rfl rfl ?_
  refine W_iconst B (hb hby d6_9) (pc' := 10) rfl (z := (0 : Int32)) (by decide) ?_
  refine W_iconst B (hb hby d6_10) (pc' := 11) rfl (z := (0 : Int32)) (by decide) ?_
  refine W_iconst B (hb hby d6_11) (pc' := 12) rfl (z := (0 : Int32)) (by decide) ?_
  refine W_iconst B (hb hby d6_12) (pc' := 13) rfl (z := (0 : Int32)) (by decide) ?_
  refine W_init B (y := (⟨"com/example/tanglemark/tanglemark/datalog/FactoredRows$Stretch", "<init>", "(IIII)V"⟩ : MethodName)) hown rfl (ow hw (i := 63) rfl) (ow hw (i := 64) rfl) (ow hw (i := 62) rfl) (ow hw (i := 65) rfl) (by decide) (a := b23) (rm_st l Z a0 hw h0 b23 (0 : Int32) (0 : Int32) (0 : Int32) (0 : Int32) ((k6, oA .int [o0, (.int (1 : Int32)), (.int (2 : Int32))]) :: (k5, oA .int [o0, o0]) :: e0 :: e1 :: e2 :: e3 :: e4 :: e5 :: e6 :: e7 :: e8 :: e9 :: e10 :: e11 :: e12 :: e13 :: e14 :: e15 :: (a1, oO cn3 [(fk14, .null), (fk15, (.int (0 : Int32))), (fk16, .null), (fk17, .null), (fk18, (.int (0 : Int32))), (fk19, .null), (fk20, .null), (fk21, .null), (fk22, .null), (fk23, .null), (fk24, .null)]) :: e16 :: e17 :: (k1, oA .int [o0, (.int (1 : Int32))]) :: ds)) (lenOf pd_3 rfl) (hb hby d6_13) (pc' := 16) rfl (argsL := [(.int (0 : Int32)), (.int (0 : Int32)), (.int (0 : Int32)), (.int (0 : Int32))]) (rest := [(.ref b23), (.ref a1)]) rfl (by rw [hml]; rfl) (W := 2) (oLe rfl) (by decide) (cells' := 1) rfl (slots' := 4) rfl ?_
  intro T v_ d_ q_ B
  obtain ⟨rfl, rfl⟩ := q_
  show oWin p e below Z h0 _ _ (T.setTop (mkF m 16 #[.val (.ref a1), .val (.int (3 : Int32)), .val (.ref k1), .val (.ref k2), .val (.ref k3), .val (.ref k4), .val (.ref k5), .val (.ref k6), .unset, .unset, .unset, .unset, .unset] [(.ref b23), (.ref a1)]))
  refine W_putfield B hown (host := "") (Or.inl (ow hw (i := 75) rfl)) Via.refl (hb hby d6_16) (pc' := 19) rfl (Or.inl (ow hw (i := 76) rfl)) (ow hw (i := 2) rfl) (ty := (.object "com/example/tanglemark/tanglemark/datalog/FactoredRows$Stretch")) (by decide) rfl rfl (j := 19) rfl (q := 0) rfl (ds' := ((b23, oO cn2 [(fk10, (.int (0 : Int32))), (fk11, (.int (0 : Int32))), (fk12, (.int (0 : Int32))), (fk13, (.int (0 : Int32)))]) :: (k6, oA .int [o0, (.int (1 : Int32)), (.int (2 : Int32))]) :: (k5, oA .int [o0, o0]) :: e0 :: e1 :: e2 :: e3 :: e4 :: e5 :: e6 :: e7 :: e8 :: e9 :: e10 :: e11 :: e12 :: e13 :: e14 :: e15 :: (a1, oO cn3 [(fk14, (.ref b23)), (fk15, (.int (0 : Int32))), (fk16, .null), (fk17, .null), (fk18, (.int (0 : Int32))), (fk19, .null), (fk20, .null), (fk21, .null), (fk22, .null), (fk23, .null), (fk24, .null)]) :: e16 :: e17 :: (k1, oA .int [o0, (.int (1 : Int32))]) :: ds)) rfl ?_
  intro T B
  refine W_aloadN B (hb hby d6_19) (pc' := 20) rfl rfl rfl ?_
  refine W_iloadN B (hb hby d6_20) (pc' := 21) rfl rfl ?_
  refine W_putfield B hown (host := "") (Or.inl (ow hw (i := 77) rfl)) Via.refl (hb hby d6_21) (pc' := 24) rfl (Or.inr ⟨(ow hw (i := 78) rfl), rfl, hnm⟩) (ow hw (i := 2) rfl) (ty := .int) (by decide) rfl rfl (j := 19) rfl (q := 1) rfl (ds' := ((b23, oO cn2 [(fk10, (.int (0 : Int32))), (fk11, (.int (0 : Int32))), (fk12, (.int (0 : Int32))), (fk13, (.int (0 : Int32)))]) :: (k6, oA .int [o0, (.int (1 : Int32)), (.int (2 : Int32))]) :: (k5, oA .int [o0, o0]) :: e0 :: e1 :: e2 :: e3 :: e4 :: e5 :: e6 :: e7 :: e8 :: e9 :: e10 :: e11 :: e12 :: e13 :: e14 :: e15 :: (a1, oO cn3 [(fk14, (.ref b23)), (fk15, (.int (3 : Int32))), (fk16, .null), (fk17, .null), (fk18, (.int (0 : Int32))), (fk19, .null), (fk20, .null), (fk21, .null), (fk22, .null), (fk23, .null), (fk24, .null)]) :: e16 :: e17 :: (k1, oA .int [o0, (.int (1 : Int32))]) :: ds)) rfl ?_
  intro T B
  refine W_aloadN B (hb hby d6_24) (pc' := 25) rfl rfl rfl ?_
  refine W_aloadN B (hb hby d6_25) (pc' := 26) rfl rfl rfl ?_
  refine W_putfield B hown (host := "") (Or.inl (ow hw (i := 79) rfl)) Via.refl (hb hby d6_26) (pc' := 29) rfl (Or.inr ⟨(ow hw (i := 80) rfl), rfl, hnm⟩) (ow hw (i := 2) rfl) (ty := (.array .int)) (by decide) rfl rfl (j := 19) rfl (q := 2) rfl (ds' := ((b23, oO cn2 [(fk10, (.int (0 : Int32))), (fk11, (.int (0 : Int32))), (fk12, (.int (0 : Int32))), (fk13, (.int (0 : Int32)))]) :: (k6, oA .int [o0, (.int (1 : Int32)), (.int (2 : Int32))]) :: (k5, oA .int [o0, o0]) :: e0 :: e1 :: e2 :: e3 :: e4 :: e5 :: e6 :: e7 :: e8 :: e9 :: e10 :: e11 :: e12 :: e13 :: e14 :: e15 :: (a1, oO cn3 [(fk14, (.ref b23)), (fk15, (.int (3 : Int32))), (fk16, (.ref k1)), (fk17, .null), (fk18, (.int (0 : Int32))), (fk19, .null), (fk20, .null), (fk21, .null), (fk22, .null), (fk23, .null), (fk24, .null)]) :: e16 :: e17 :: (k1, oA .int [o0, (.int (1 : Int32))]) :: ds)) rfl ?_
  intro T B
  refine W_aloadN B (hb hby d6_29) (pc' := 30) rfl rfl rfl ?_
  refine W_iloadN B (hb hby d6_30) (pc' := 31) rfl rfl ?_
  refine W_newarray B (ow hw (i := 0) rfl) (hb hby d6_31) (pc' := 33) rfl (by decide) (cap := 3) (by decide) (by decide) (cells' := 2) rfl (slots' := 7) rfl (vs := [(.int (0 : Int32)), (.int (0 : Int32)), (.int (0 : Int32))]) rfl (ty := .int) rfl ?_
  intro T b24 B
  refine W_putfield B hown (host := "") (Or.inl (ow hw (i := 81) rfl)) Via.refl (hb hby d6_33) (pc' := 36) rfl (Or.inr ⟨(ow hw (i := 82) rfl), rfl, hnm⟩) (ow hw (i := 2) rfl) (ty := (.array .int)) (by decide) rfl rfl (j := 20) rfl (q := 3) rfl (ds' := ((b24, oA .int [o0, o0, o0]) :: (b23, oO cn2 [(fk10, (.int (0 : Int32))), (fk11, (.int (0 : Int32))), (fk12, (.int (0 : Int32))), (fk13, (.int (0 : Int32)))]) :: (k6, oA .int [o0, (.int (1 : Int32)), (.int (2 : Int32))]) :: (k5, oA .int [o0, o0]) :: e0 :: e1 :: e2 :: e3 :: e4 :: e5 :: e6 :: e7 :: e8 :: e9 :: e10 :: e11 :: e12 :: e13 :: e14 :: e15 :: (a1, oO cn3 [(fk14, (.ref b23)), (fk15, (.int (3 : Int32))), (fk16, (.ref k1)), (fk17, (.ref b24)), (fk18, (.int (0 : Int32))), (fk19, .null), (fk20, .null), (fk21, .null), (fk22, .null), (fk23, .null), (fk24, .null)]) :: e16 :: e17 :: (k1, oA .int [o0, (.int (1 : Int32))]) :: ds)) rfl ?_
  intro T B
  refine W_iconst B (hb hby d6_36) (pc' := 37) rfl (z := (0 : Int32)) (by decide) ?_
  refine W_istore B (hb hby d6_37) (pc' := 39) rfl (v := (0 : Int32)) rfl (ls' := #[.val (.ref a1), .val (.int (3 : Int32)), .val (.ref k1), .val (.ref k2), .val (.ref k3), .val (.ref k4), .val (.ref k5), .val (.ref k6), .val (.int (0 : Int32)), .unset, .unset, .unset, .unset]) rfl ?_
  refine W_iconst B (hb hby d6_39) (pc' := 40) rfl (z := (0 : Int32)) (by decide) ?_
  refine W_istore B (hb hby d6_40) (pc' := 42) rfl (v := (0 : Int32)) rfl (ls' := #[.val (.ref a1), .val (.int (3 : Int32)), .val (.ref k1), .val (.ref k2), .val (.ref k3), .val (.ref k4), .val (.ref k5), .val (.ref k6), .val (.int (0 : Int32)), .val (.int (0 : Int32)), .unset, .unset, .unset]) rfl ?_
  refine W_iconst B (hb hby d6_42) (pc' := 43) rfl (z := (0 : Int32)) (by decide) ?_
  refine W_istore B (hb hby d6_43) (pc' := 45) rfl (v := (0 : Int32)) rfl (ls' := #[.val (.ref a1), .val (.int (3 : Int32)), .val (.ref k1), .val (.ref k2), .val (.ref k3), .val (.ref k4), .val (.ref k5), .val (.ref k6), .val (.int (0 : Int32)), .val (.int (0 : Int32)), .val (.int (0 : Int32)), .unset, .unset]) rfl ?_
  refine W_iload B (hb hby d6_45) (pc' := 47) rfl rfl ?_
  refine W_iloadN B (hb hby d6_47) (pc' := 48) rfl rfl ?_
  refine W_icmpN B (hb hby d6_48) (pc' := 51) rfl (by decide) ?_
  refine W_iload B (hb hby d6_51) (pc' := 53) rfl rfl ?_
  refine W_aloadN B (hb hby d6_53) (pc' := 54) rfl rfl rfl ?_
  refine W_arraylength B (hb hby d6_54) (pc' := 55) rfl (j := 23) rfl (z := (2 : Int32)) rfl ?_
  refine W_icmpN B (hb hby d6_55) (pc' := 58) rfl (by decide) ?_
  refine W_aloadN B (hb hby d6_58) (pc' := 59) rfl rfl rfl ?_
  refine W_iload B (hb hby d6_59) (pc' := 61) rfl rfl ?_
  refine W_iaload B (hb hby d6_61) (pc' := 62) rfl (i := 23) rfl (by decide) (v := (.int (0 : Int32))) rfl ?_
  refine W_iload B (hb hby d6_62) (pc' := 64) rfl rfl ?_
  refine W_icmpN B (hb hby d6_64) (pc' := 67) rfl (by decide) ?_
  refine W_aloadN B (hb hby d6_67) (pc' := 68) rfl rfl rfl ?_
  refine W_getfield B hown (host := "") (Or.inl (ow hw (i := 81) rfl)) Via.refl (hb hby d6_68) (pc' := 71) rfl (j := 20) rfl (q := 3) rfl ?_
  intro T B
  refine W_iload B (hb hby d6_71) (pc' := 73) rfl rfl ?_
  refine W_iload B (hb hby d6_73) (pc' := 75) rfl rfl ?_
  refine W_iinc B (hb hby d6_75) (pc' := 78) rfl rfl (z := (1 : Int32)) (by decide) (ls' := #[.val (.ref a1), .val (.int (3 : Int32)), .val (.ref k1), .val (.ref k2), .val (.ref k3), .val (.ref k4), .val (.ref k5), .val (.ref k6), .val (.int (0 : Int32)), .val (.int (0 : Int32)), .val (.int (1 : Int32)), .unset, .unset]) rfl ?_
  refine W_iastore B (hb hby d6_78) (pc' := 79) rfl (i := 0) rfl (by decide) (oLt rfl) (ds' := ((b24, oA .int [o0, o0, o0]) :: (b23, oO cn2 [(fk10, (.int (0 : Int32))), (fk11, (.int (0 : Int32))), (fk12, (.int (0 : Int32))), (fk13, (.int (0 : Int32)))]) :: (k6, oA .int [o0, (.int (1 : Int32)), (.int (2 : Int32))]) :: (k5, oA .int [o0, o0]) :: e0 :: e1 :: e2 :: e3 :: e4 :: e5 :: e6 :: e7 :: e8 :: e9 :: e10 :: e11 :: e12 :: e13 :: e14 :: e15 :: (a1, oO cn3 [(fk14, (.ref b23)), (fk15, (.int (3 : Int32))), (fk16, (.ref k1)), (fk17, (.ref b24)), (fk18, (.int (0 : Int32))), (fk19, .null), (fk20, .null), (fk21, .null), (fk22, .null), (fk23, .null), (fk24, .null)]) :: e16 :: e17 :: (k1, oA .int [o0, (.int (1 : Int32))]) :: ds)) rfl ?_
  intro T B
  refine W_goto B (hb hby d6_79) (by decide) (pc' := 96) (by decide) ?_
  refine W_iinc B (hb hby d6_96) (pc' := 99) rfl rfl (z := (1 : Int32)) (by decide) (ls' := #[.val (.ref a1), .val (.int (3 : Int32)), .val (.ref k1), .val (.ref k2), .val (.ref k3), .val (.ref k4), .val (.ref k5), .val (.ref k6), .val (.int (0 : Int32)), .val (.int (1 : Int32)), .val (.int (1 : Int32)), .unset, .unset]) rfl ?_
  refine W_goto B (hb hby d6_99) (by decide) (pc' := 45) (by decide) ?_
  refine W_iload B (hb hby d6_45) (pc' := 47) rfl rfl ?_
  refine W_iloadN B (hb hby d6_47) (pc' := 48) rfl rfl ?_
  refine W_icmpN B (hb hby d6_48) (pc' := 51) rfl (by decide) ?_
  refine W_iload B (hb hby d6_51) (pc' := 53) rfl rfl ?_
  refine W_aloadN B (hb hby d6_53) (pc' := 54) rfl rfl rfl ?_
  refine W_arraylength B (hb hby d6_54) (pc' := 55) rfl (j := 23) rfl (z := (2 : Int32)) rfl ?_
  refine W_icmpN B (hb hby d6_55) (pc' := 58) rfl (by decide) ?_
  refine W_aloadN B (hb hby d6_58) (pc' := 59) rfl rfl rfl ?_
  refine W_iload B (hb hby d6_59) (pc' := 61) rfl rfl ?_
  refine W_iaload B (hb hby d6_61) (pc' := 62) rfl (i := 23) rfl (by decide) (v := (.int (1 : Int32))) rfl ?_
  refine W_iload B (hb hby d6_62) (pc' := 64) rfl rfl ?_
  refine W_icmpN B (hb hby d6_64) (pc' := 67) rfl (by decide) ?_
  refine W_aloadN B (hb hby d6_67) (pc' := 68) rfl rfl rfl ?_
  refine W_getfield B hown (host := "") (Or.inl (ow hw (i := 81) rfl)) Via.refl (hb hby d6_68) (pc' := 71) rfl (j := 20) rfl (q := 3) rfl ?_
  intro T B
  refine W_iload B (hb hby d6_71) (pc' := 73) rfl rfl ?_
  refine W_iload B (hb hby d6_73) (pc' := 75) rfl rfl ?_
  refine W_iinc B (hb hby d6_75) (pc' := 78) rfl rfl (z := (2 : Int32)) (by decide) (ls' := #[.val (.ref a1), .val (.int (3 : Int32)), .val (.ref k1), .val (.ref k2), .val (.ref k3), .val (.ref k4), .val (.ref k5), .val (.ref k6), .val (.int (0 : Int32)), .val (.int (1 : Int32)), .val (.int (2 : Int32)), .unset, .unset]) rfl ?_
  refine W_iastore B (hb hby d6_78) (pc' := 79) rfl (i := 0) rfl (by decide) (oLt rfl) (ds' := ((b24, oA .int [o0, (.int (1 : Int32)), o0]) :: (b23, oO cn2 [(fk10, (.int (0 : Int32))), (fk11, (.int (0 : Int32))), (fk12, (.int (0 : Int32))), (fk13, (.int (0 : Int32)))]) :: (k6, oA .int [o0, (.int (1 : Int32)), (.int (2 : Int32))]) :: (k5, oA .int [o0, o0]) :: e0 :: e1 :: e2 :: e3 :: e4 :: e5 :: e6 :: e7 :: e8 :: e9 :: e10 :: e11 :: e12 :: e13 :: e14 :: e15 :: (a1, oO cn3 [(fk14, (.ref b23)), (fk15, (.int (3 : Int32))), (fk16, (.ref k1)), (fk17, (.ref b24)), (fk18, (.int (0 : Int32))), (fk19, .null), (fk20, .null), (fk21, .null), (fk22, .null), (fk23, .null), (fk24, .null)]) :: e16 :: e17 :: (k1, oA .int [o0, (.int (1 : Int32))]) :: ds)) rfl ?_
  intro T B
  refine W_goto B (hb hby d6_79) (by decide) (pc' := 96) (by decide) ?_
  refine W_iinc B (hb hby d6_96) (pc' := 99) rfl rfl (z := (2 : Int32)) (by decide) (ls' := #[.val (.ref a1), .val (.int (3 : Int32)), .val (.ref k1), .val (.ref k2), .val (.ref k3), .val (.ref k4), .val (.ref k5), .val (.ref k6), .val (.int (0 : Int32)), .val (.int (2 : Int32)), .val (.int (2 : Int32)), .unset, .unset]) rfl ?_
  refine W_goto B (hb hby d6_99) (by decide) (pc' := 45) (by decide) ?_
  refine W_iload B (hb hby d6_45) (pc' := 47) rfl rfl ?_
  refine W_iloadN B (hb hby d6_47) (pc' := 48) rfl rfl ?_
  refine W_icmpN B (hb hby d6_48) (pc' := 51) rfl (by decide) ?_
  refine W_iload B (hb hby d6_51) (pc' := 53) rfl rfl ?_
  refine W_aloadN B (hb hby d6_53) (pc' := 54) rfl rfl rfl ?_
  refine W_arraylength B (hb hby d6_54) (pc' := 55) rfl (j := 23) rfl (z := (2 : Int32)) rfl ?_
  refine W_icmpY B (hb hby d6_55) (by decide) (pc' := 82) (by decide) (by decide) ?_
  refine W_aloadN B (hb hby d6_82) (pc' := 83) rfl rfl rfl ?_
  refine W_getfield B hown (host := "") (Or.inl (ow hw (i := 81) rfl)) Via.refl (hb hby d6_83) (pc' := 86) rfl (j := 20) rfl (q := 3) rfl ?_
  intro T B
  refine W_iload B (hb hby d6_86) (pc' := 88) rfl rfl ?_
  refine W_iconst B (hb hby d6_88) (pc' := 89) rfl (z := (-1 : Int32)) (by decide) ?_
  refine W_iload B (hb hby d6_89) (pc' := 91) rfl rfl ?_
  refine W_iinc B (hb hby d6_91) (pc' := 94) rfl rfl (z := (1 : Int32)) (by decide) (ls' := #[.val (.ref a1), .val (.int (3 : Int32)), .val (.ref k1), .val (.ref k2), .val (.ref k3), .val (.ref k4), .val (.ref k5), .val (.ref k6), .val (.int (1 : Int32)), .val (.int (2 : Int32)), .val (.int (2 : Int32)), .unset, .unset]) rfl ?_
  refine W_isub B (hb hby d6_94) (pc' := 95) rfl (z := (-1 : Int32)) (by decide) ?_
  refine W_iastore B (hb hby d6_95) (pc' := 96) rfl (i := 0) rfl (by decide) (oLt rfl) (ds' := ((b24, oA .int [o0, (.int (1 : Int32)), (.int (-1 : Int32))]) :: (b23, oO cn2 [(fk10, (.int (0 : Int32))), (fk11, (.int (0 : Int32))), (fk12, (.int (0 : Int32))), (fk13, (.int (0 : Int32)))]) :: (k6, oA .int [o0, (.int (1 : Int32)), (.int (2 : Int32))]) :: (k5, oA .int [o0, o0]) :: e0 :: e1 :: e2 :: e3 :: e4 :: e5 :: e6 :: e7 :: e8 :: e9 :: e10 :: e11 :: e12 :: e13 :: e14 :: e15 :: (a1, oO cn3 [(fk14, (.ref b23)), (fk15, (.int (3 : Int32))), (fk16, (.ref k1)), (fk17, (.ref b24)), (fk18, (.int (0 : Int32))), (fk19, .null), (fk20, .null), (fk21, .null), (fk22, .null), (fk23, .null), (fk24, .null)]) :: e16 :: e17 :: (k1, oA .int [o0, (.int (1 : Int32))]) :: ds)) rfl ?_
  intro T B
  refine W_iinc B (hb hby d6_96) (pc' := 99) rfl rfl (z := (3 : Int32)) (by decide) (ls' := #[.val (.ref a1), .val (.int (3 : Int32)), .val (.ref k1), .val (.ref k2), .val (.ref k3), .val (.ref k4), .val (.ref k5), .val (.ref k6), .val (.int (1 : Int32)), .val (.int (3 : Int32)), .val (.int (2 : Int32)), .unset, .unset]) rfl ?_
  refine W_goto B (hb hby d6_99) (by decide) (pc' := 45) (by decide) ?_
  refine W_iload B (hb hby d6_45) (pc' := 47) rfl rfl ?_
  refine W_iloadN B (hb hby d6_47) (pc' := 48) rfl rfl ?_
  refine W_icmpY B (hb hby d6_48) (by decide) (pc' := 102) (by decide) (by decide) ?_
  refine W_aloadN B (hb hby d6_102) (pc' := 103) rfl rfl rfl ?_
  refine W_iload B (hb hby d6_103) (pc' := 105) rfl rfl ?_
  refine W_putfield B hown (host := "") (Or.inl (ow hw (i := 83) rfl)) Via.refl (hb hby d6_105) (pc' := 108) rfl (Or.inr ⟨(ow hw (i := 84) rfl), rfl, hnm⟩) (ow hw (i := 2) rfl) (ty := .int) (by decide) rfl rfl (j := 20) rfl (q := 4) rfl (ds' := ((b24, oA .int [o0, (.int (1 : Int32)), (.int (-1 : Int32))]) :: (b23, oO cn2 [(fk10, (.int (0 : Int32))), (fk11, (.int (0 : Int32))), (fk12, (.int (0 : Int32))), (fk13, (.int (0 : Int32)))]) :: (k6, oA .int [o0, (.int (1 : Int32)), (.int (2 : Int32))]) :: (k5, oA .int [o0, o0]) :: e0 :: e1 :: e2 :: e3 :: e4 :: e5 :: e6 :: e7 :: e8 :: e9 :: e10 :: e11 :: e12 :: e13 :: e14 :: e15 :: (a1, oO cn3 [(fk14, (.ref b23)), (fk15, (.int (3 : Int32))), (fk16, (.ref k1)), (fk17, (.ref b24)), (fk18, (.int (1 : Int32))), (fk19, .null), (fk20, .null), (fk21, .null), (fk22, .null), (fk23, .null), (fk24, .null)]) :: e16 :: e17 :: (k1, oA .int [o0, (.int (1 : Int32))]) :: ds)) rfl ?_
  intro T B
  refine W_aloadN B (hb hby d6_108) (pc' := 109) rfl rfl rfl ?_
  refine W_aloadN B (hb hby d6_109) (pc' := 110) rfl rfl rfl ?_
  refine W_putfield B hown (host := "") (Or.inl (ow hw (i := 85) rfl)) Via.refl (hb hby d6_110) (pc' := 113) rfl (Or.inr ⟨(ow hw (i := 86) rfl), rfl, hnm⟩) (ow hw (i := 2) rfl) (ty := (.array .int)) (by decide) rfl rfl (j := 20) rfl (q := 5) rfl (ds' := ((b24, oA .int [o0, (.int (1 : Int32)), (.int (-1 : Int32))]) :: (b23, oO cn2 [(fk10, (.int (0 : Int32))), (fk11, (.int (0 : Int32))), (fk12, (.int (0 : Int32))), (fk13, (.int (0 : Int32)))]) :: (k6, oA .int [o0, (.int (1 : Int32)), (.int (2 : Int32))]) :: (k5, oA .int [o0, o0]) :: e0 :: e1 :: e2 :: e3 :: e4 :: e5 :: e6 :: e7 :: e8 :: e9 :: e10 :: e11 :: e12 :: e13 :: e14 :: e15 :: (a1, oO cn3 [(fk14, (.ref b23)), (fk15, (.int (3 : Int32))), (fk16, (.ref k1)), (fk17, (.ref b24)), (fk18, (.int (1 : Int32))), (fk19, (.ref k2)), (fk20, .null), (fk21, .null), (fk22, .null), (fk23, .null), (fk24, .null)]) :: e16 :: e17 :: (k1, oA .int [o0, (.int (1 : Int32))]) :: ds)) rfl ?_
  intro T B
  refine W_aloadN B (hb hby d6_113) (pc' := 114) rfl rfl rfl ?_
  refine W_aload B (hb hby d6_114) (pc' := 116) rfl rfl rfl ?_
  refine W_putfield B hown (host := "") (Or.inl (ow hw (i := 87) rfl)) Via.refl (hb hby d6_116) (pc' := 119) rfl (Or.inr ⟨(ow hw (i := 88) rfl), rfl, hnm⟩) (ow hw (i := 2) rfl) (ty := (.array .int)) (by decide) rfl rfl (j := 20) rfl (q := 6) rfl (ds' := ((b24, oA .int [o0, (.int (1 : Int32)), (.int (-1 : Int32))]) :: (b23, oO cn2 [(fk10, (.int (0 : Int32))), (fk11, (.int (0 : Int32))), (fk12, (.int (0 : Int32))), (fk13, (.int (0 : Int32)))]) :: (k6, oA .int [o0, (.int (1 : Int32)), (.int (2 : Int32))]) :: (k5, oA .int [o0, o0]) :: e0 :: e1 :: e2 :: e3 :: e4 :: e5 :: e6 :: e7 :: e8 :: e9 :: e10 :: e11 :: e12 :: e13 :: e14 :: e15 :: (a1, oO cn3 [(fk14, (.ref b23)), (fk15, (.int (3 : Int32))), (fk16, (.ref k1)), (fk17, (.ref b24)), (fk18, (.int (1 : Int32))), (fk19, (.ref k2)), (fk20, (.ref k3)), (fk21, .null), (fk22, .null), (fk23, .null), (fk24, .null)]) :: e16 :: e17 :: (k1, oA .int [o0, (.int (1 : Int32))]) :: ds)) rfl ?_
  intro T B
  refine W_aloadN B (hb hby d6_119) (pc' := 120) rfl rfl rfl ?_
  refine W_aload B (hb hby d6_120) (pc' := 122) rfl rfl rfl ?_
  refine W_putfield B hown (host := "") (Or.inl (ow hw (i := 89) rfl)) Via.refl (hb hby d6_122) (pc' := 125) rfl (Or.inr ⟨(ow hw (i := 90) rfl), rfl, hnm⟩) (ow hw (i := 2) rfl) (ty := (.object "com/example/tanglemark/tanglemark/datalog/SharedSets")) (by decide) rfl rfl (j := 20) rfl (q := 7) rfl (ds' := ((b24, oA .int [o0, (.int (1 : Int32)), (.int (-1 : Int32))]) :: (b23, oO cn2 [(fk10, (.int (0 : Int32))), (fk11, (.int (0 : Int32))), (fk12, (.int (0 : Int32))), (fk13, (.int (0 : Int32)))]) :: (k6, oA .int [o0, (.int (1 : Int32)), (.int (2 : Int32))]) :: (k5, oA .int [o0, o0]) :: e0 :: e1 :: e2 :: e3 :: e4 :: e5 :: e6 :: e7 :: e8 :: e9 :: e10 :: e11 :: e12 :: e13 :: e14 :: e15 :: (a1, oO cn3 [(fk14, (.ref b23)), (fk15, (.int (3 : Int32))), (fk16, (.ref k1)), (fk17, (.ref b24)), (fk18, (.int (1 : Int32))), (fk19, (.ref k2)), (fk20, (.ref k3)), (fk21, (.ref k4)), (fk22, .null), (fk23, .null), (fk24, .null)]) :: e16 :: e17 :: (k1, oA .int [o0, (.int (1 : Int32))]) :: ds)) rfl ?_
  intro T B
  refine W_aloadN B (hb hby d6_125) (pc' := 126) rfl rfl rfl ?_
  refine W_aload B (hb hby d6_126) (pc' := 128) rfl rfl rfl ?_
  refine W_putfield B hown (host := "") (Or.inl (ow hw (i := 91) rfl)) Via.refl (hb hby d6_128) (pc' := 131) rfl (Or.inr ⟨(ow hw (i := 92) rfl), rfl, hnm⟩) (ow hw (i := 2) rfl) (ty := (.array .int)) (by decide) rfl rfl (j := 20) rfl (q := 8) rfl (ds' := ((b24, oA .int [o0, (.int (1 : Int32)), (.int (-1 : Int32))]) :: (b23, oO cn2 [(fk10, (.int (0 : Int32))), (fk11, (.int (0 : Int32))), (fk12, (.int (0 : Int32))), (fk13, (.int (0 : Int32)))]) :: (k6, oA .int [o0, (.int (1 : Int32)), (.int (2 : Int32))]) :: (k5, oA .int [o0, o0]) :: e0 :: e1 :: e2 :: e3 :: e4 :: e5 :: e6 :: e7 :: e8 :: e9 :: e10 :: e11 :: e12 :: e13 :: e14 :: e15 :: (a1, oO cn3 [(fk14, (.ref b23)), (fk15, (.int (3 : Int32))), (fk16, (.ref k1)), (fk17, (.ref b24)), (fk18, (.int (1 : Int32))), (fk19, (.ref k2)), (fk20, (.ref k3)), (fk21, (.ref k4)), (fk22, (.ref k5)), (fk23, .null), (fk24, .null)]) :: e16 :: e17 :: (k1, oA .int [o0, (.int (1 : Int32))]) :: ds)) rfl ?_
  intro T B
  refine W_aloadN B (hb hby d6_131) (pc' := 132) rfl rfl rfl ?_
  refine W_aload B (hb hby d6_132) (pc' := 134) rfl rfl rfl ?_
  refine W_putfield B hown (host := "") (Or.inl (ow hw (i := 93) rfl)) Via.refl (hb hby d6_134) (pc' := 137) rfl (Or.inr ⟨(ow hw (i := 94) rfl), rfl, hnm⟩) (ow hw (i := 2) rfl) (ty := (.array .int)) (by decide) rfl rfl (j := 20) rfl (q := 9) rfl (ds' := ((b24, oA .int [o0, (.int (1 : Int32)), (.int (-1 : Int32))]) :: (b23, oO cn2 [(fk10, (.int (0 : Int32))), (fk11, (.int (0 : Int32))), (fk12, (.int (0 : Int32))), (fk13, (.int (0 : Int32)))]) :: (k6, oA .int [o0, (.int (1 : Int32)), (.int (2 : Int32))]) :: (k5, oA .int [o0, o0]) :: e0 :: e1 :: e2 :: e3 :: e4 :: e5 :: e6 :: e7 :: e8 :: e9 :: e10 :: e11 :: e12 :: e13 :: e14 :: e15 :: (a1, oO cn3 [(fk14, (.ref b23)), (fk15, (.int (3 : Int32))), (fk16, (.ref k1)), (fk17, (.ref b24)), (fk18, (.int (1 : Int32))), (fk19, (.ref k2)), (fk20, (.ref k3)), (fk21, (.ref k4)), (fk22, (.ref k5)), (fk23, (.ref k6)), (fk24, .null)]) :: e16 :: e17 :: (k1, oA .int [o0, (.int (1 : Int32))]) :: ds)) rfl ?_
  intro T B
  refine W_aload B (hb hby d6_137) (pc' := 139) rfl rfl rfl ?_
  refine W_aload B (hb hby d6_139) (pc' := 141) rfl rfl rfl ?_
  refine W_arraylength B (hb hby d6_141) (pc' := 142) rfl (j := 3) rfl (z := (2 : Int32)) rfl ?_
  refine W_iaload B (hb hby d6_142) (pc' := 143) rfl (i := 2) rfl (by decide) (v := (.int (2 : Int32))) rfl ?_
  refine W_istore B (hb hby d6_143) (pc' := 145) rfl (v := (2 : Int32)) rfl (ls' := #[.val (.ref a1), .val (.int (3 : Int32)), .val (.ref k1), .val (.ref k2), .val (.ref k3), .val (.ref k4), .val (.ref k5), .val (.ref k6), .val (.int (1 : Int32)), .val (.int (2 : Int32)), .val (.int (2 : Int32)), .unset, .unset]) rfl ?_
  refine W_iload B (hb hby d6_145) (pc' := 147) rfl rfl ?_
  refine W_i2l B (hb hby d6_147) (pc' := 148) rfl (z := (2 : Int64)) (by decide) ?_
  refine W_ldc2Long B hown (ow hw (i := 95) rfl) (hb hby d6_148) (pc' := 151) rfl ?_
  refine W_ladd B (hb hby d6_151) (pc' := 152) rfl (z := (66 : Int64)) (by decide) ?_
  refine W_lconst B (hb hby d6_152) (pc' := 153) rfl (z := (1 : Int64)) (by decide) ?_
  refine W_lsub B (hb hby d6_153) (pc' := 154) rfl (z := (65 : Int64)) (by decide) ?_
  refine W_bipush B (hb hby d6_154) (pc' := 156) rfl (z := (6 : Int32)) (by decide) ?_
  refine W_lushr B (hb hby d6_156) (pc' := 157) rfl (z := (1 : Int64)) (by decide) ?_
  refine W_l2i B (hb hby d6_157) (pc' := 158) rfl (z := (1 : Int32)) (by decide) ?_
  refine W_istore B (hb hby d6_158) (pc' := 160) rfl (v := (1 : Int32)) rfl (ls' := #[.val (.ref a1), .val (.int (3 : Int32)), .val (.ref k1), .val (.ref k2), .val (.ref k3), .val (.ref k4), .val (.ref k5), .val (.ref k6), .val (.int (1 : Int32)), .val (.int (2 : Int32)), .val (.int (1 : Int32)), .unset, .unset]) rfl ?_
  refine W_aloadN B (hb hby d6_160) (pc' := 161) rfl rfl rfl ?_
  refine W_iload B (hb hby d6_161) (pc' := 163) rfl rfl ?_
  refine W_iconst B (hb hby d6_163) (pc' := 164) rfl (z := (1 : Int32)) (by decide) ?_
  refine W_iadd B (hb hby d6_164) (pc' := 165) rfl (z := (2 : Int32)) (by decide) ?_
  refine W_newarray B (ow hw (i := 0) rfl) (hb hby d6_165) (pc' := 167) rfl (by decide) (cap := 2) (by decide) (by decide) (cells' := 3) rfl (slots' := 9) rfl (vs := [(.int (0 : Int32)), (.int (0 : Int32))]) rfl (ty := .int) rfl ?_
  intro T b25 B
  refine W_putfield B hown (host := "") (Or.inl (ow hw (i := 96) rfl)) Via.refl (hb hby d6_167) (pc' := 170) rfl (Or.inr ⟨(ow hw (i := 97) rfl), rfl, hnm⟩) (ow hw (i := 2) rfl) (ty := (.array .int)) (by decide) rfl rfl (j := 21) rfl (q := 10) rfl (ds' := ((b25, oA .int [o0, o0]) :: (b24, oA .int [o0, (.int (1 : Int32)), (.int (-1 : Int32))]) :: (b23, oO cn2 [(fk10, (.int (0 : Int32))), (fk11, (.int (0 : Int32))), (fk12, (.int (0 : Int32))), (fk13, (.int (0 : Int32)))]) :: (k6, oA .int [o0, (.int (1 : Int32)), (.int (2 : Int32))]) :: (k5, oA .int [o0, o0]) :: e0 :: e1 :: e2 :: e3 :: e4 :: e5 :: e6 :: e7 :: e8 :: e9 :: e10 :: e11 :: e12 :: e13 :: e14 :: e15 :: (a1, oO cn3 [(fk14, (.ref b23)), (fk15, (.int (3 : Int32))), (fk16, (.ref k1)), (fk17, (.ref b24)), (fk18, (.int (1 : Int32))), (fk19, (.ref k2)), (fk20, (.ref k3)), (fk21, (.ref k4)), (fk22, (.ref k5)), (fk23, (.ref k6)), (fk24, (.ref b25))]) :: e16 :: e17 :: (k1, oA .int [o0, (.int (1 : Int32))]) :: ds)) rfl ?_
  intro T B
  refine W_iconst B (hb hby d6_170) (pc' := 171) rfl (z := (0 : Int32)) (by decide) ?_
  refine W_istore B (hb hby d6_171) (pc' := 173) rfl (v := (0 : Int32)) rfl (ls' := #[.val (.ref a1), .val (.int (3 : Int32)), .val (.ref k1), .val (.ref k2), .val (.ref k3), .val (.ref k4), .val (.ref k5), .val (.ref k6), .val (.int (1 : Int32)), .val (.int (2 : Int32)), .val (.int (1 : Int32)), .val (.int (0 : Int32)), .unset]) rfl ?_
  refine W_iconst B (hb hby d6_173) (pc' := 174) rfl (z := (0 : Int32)) (by decide) ?_
  refine W_istore B (hb hby d6_174) (pc' := 176) rfl (v := (0 : Int32)) rfl (ls' := #[.val (.ref a1), .val (.int (3 : Int32)), .val (.ref k1), .val (.ref k2), .val (.ref k3), .val (.ref k4), .val (.ref k5), .val (.ref k6), .val (.int (1 : Int32)), .val (.int (2 : Int32)), .val (.int (1 : Int32)), .val (.int (0 : Int32)), .val (.int (0 : Int32))]) rfl ?_
  refine W_iload B (hb hby d6_176) (pc' := 178) rfl rfl ?_
  refine W_iload B (hb hby d6_178) (pc' := 180) rfl rfl ?_
  refine W_icmpN B (hb hby d6_180) (pc' := 183) rfl (by decide) ?_
  refine W_aload B (hb hby d6_183) (pc' := 185) rfl rfl rfl ?_
  refine W_iload B (hb hby d6_185) (pc' := 187) rfl rfl ?_
  refine W_iconst B (hb hby d6_187) (pc' := 188) rfl (z := (1 : Int32)) (by decide) ?_
  refine W_iadd B (hb hby d6_188) (pc' := 189) rfl (z := (1 : Int32)) (by decide) ?_
  refine W_iaload B (hb hby d6_189) (pc' := 190) rfl (i := 3) rfl (by decide) (v := (.int (1 : Int32))) rfl ?_
  refine W_iload B (hb hby d6_190) (pc' := 192) rfl rfl ?_
  refine W_bipush B (hb hby d6_192) (pc' := 194) rfl (z := (6 : Int32)) (by decide) ?_
  refine W_ishl B (hb hby d6_194) (pc' := 195) rfl (z := (0 : Int32)) (by decide) ?_
  refine W_icmpY B (hb hby d6_195) (by decide) (pc' := 204) (by decide) (by decide) ?_
  refine W_aloadN B (hb hby d6_204) (pc' := 205) rfl rfl rfl ?_
  refine W_getfield B hown (host := "") (Or.inl (ow hw (i := 96) rfl)) Via.refl (hb hby d6_205) (pc' := 208) rfl (j := 21) rfl (q := 10) rfl ?_
  intro T B
  refine W_iload B (hb hby d6_208) (pc' := 210) rfl rfl ?_
  refine W_iload B (hb hby d6_210) (pc' := 212) rfl rfl ?_
  refine W_iastore B (hb hby d6_212) (pc' := 213) rfl (i := 0) rfl (by decide) (oLt rfl) (ds' := ((b25, oA .int [o0, o0]) :: (b24, oA .int [o0, (.int (1 : Int32)), (.int (-1 : Int32))]) :: (b23, oO cn2 [(fk10, (.int (0 : Int32))), (fk11, (.int (0 : Int32))), (fk12, (.int (0 : Int32))), (fk13, (.int (0 : Int32)))]) :: (k6, oA .int [o0, (.int (1 : Int32)), (.int (2 : Int32))]) :: (k5, oA .int [o0, o0]) :: e0 :: e1 :: e2 :: e3 :: e4 :: e5 :: e6 :: e7 :: e8 :: e9 :: e10 :: e11 :: e12 :: e13 :: e14 :: e15 :: (a1, oO cn3 [(fk14, (.ref b23)), (fk15, (.int (3 : Int32))), (fk16, (.ref k1)), (fk17, (.ref b24)), (fk18, (.int (1 : Int32))), (fk19, (.ref k2)), (fk20, (.ref k3)), (fk21, (.ref k4)), (fk22, (.ref k5)), (fk23, (.ref k6)), (fk24, (.ref b25))]) :: e16 :: e17 :: (k1, oA .int [o0, (.int (1 : Int32))]) :: ds)) rfl ?_
  intro T B
  refine W_iinc B (hb hby d6_213) (pc' := 216) rfl rfl (z := (1 : Int32)) (by decide) (ls' := #[.val (.ref a1), .val (.int (3 : Int32)), .val (.ref k1), .val (.ref k2), .val (.ref k3), .val (.ref k4), .val (.ref k5), .val (.ref k6), .val (.int (1 : Int32)), .val (.int (2 : Int32)), .val (.int (1 : Int32)), .val (.int (0 : Int32)), .val (.int (1 : Int32))]) rfl ?_
  refine W_goto B (hb hby d6_216) (by decide) (pc' := 176) (by decide) ?_
  refine W_iload B (hb hby d6_176) (pc' := 178) rfl rfl ?_
  refine W_iload B (hb hby d6_178) (pc' := 180) rfl rfl ?_
  refine W_icmpY B (hb hby d6_180) (by decide) (pc' := 219) (by decide) (by decide) ?_
  refine W_aloadN B (hb hby d6_219) (pc' := 220) rfl rfl rfl ?_
  refine W_getfield B hown (host := "") (Or.inl (ow hw (i := 96) rfl)) Via.refl (hb hby d6_220) (pc' := 223) rfl (j := 21) rfl (q := 10) rfl ?_
  intro T B
  refine W_iload B (hb hby d6_223) (pc' := 225) rfl rfl ?_
  refine W_aload B (hb hby d6_225) (pc' := 227) rfl rfl rfl ?_
  refine W_arraylength B (hb hby d6_227) (pc' := 228) rfl (j := 4) rfl (z := (2 : Int32)) rfl ?_
  refine W_iconst B (hb hby d6_228) (pc' := 229) rfl (z := (1 : Int32)) (by decide) ?_
  refine W_isub B (hb hby d6_229) (pc' := 230) rfl (z := (1 : Int32)) (by decide) ?_
  refine W_iastore B (hb hby d6_230) (pc' := 231) rfl (i := 0) rfl (by decide) (oLt rfl) (ds' := ((b25, oA .int [o0, (.int (1 : Int32))]) :: (b24, oA .int [o0, (.int (1 : Int32)), (.int (-1 : Int32))]) :: (b23, oO cn2 [(fk10, (.int (0 : Int32))), (fk11, (.int (0 : Int32))), (fk12, (.int (0 : Int32))), (fk13, (.int (0 : Int32)))]) :: (k6, oA .int [o0, (.int (1 : Int32)), (.int (2 : Int32))]) :: (k5, oA .int [o0, o0]) :: e0 :: e1 :: e2 :: e3 :: e4 :: e5 :: e6 :: e7 :: e8 :: e9 :: e10 :: e11 :: e12 :: e13 :: e14 :: e15 :: (a1, oO cn3 [(fk14, (.ref b23)), (fk15, (.int (3 : Int32))), (fk16, (.ref k1)), (fk17, (.ref b24)), (fk18, (.int (1 : Int32))), (fk19, (.ref k2)), (fk20, (.ref k3)), (fk21, (.ref k4)), (fk22, (.ref k5)), (fk23, (.ref k6)), (fk24, (.ref b25))]) :: e16 :: e17 :: (k1, oA .int [o0, (.int (1 : Int32))]) :: ds)) rfl ?_
  intro T B
  refine W_retV B hret (hb hby d6_231) (by decide) ?_
  exact ⟨_, _, _, rfl, rfl⟩
theorem d8_0 : decode prog_13_method_9_code 0 = .ok (.iconst 0, 1) := by decide +kernel
theorem d8_1 : decode prog_13_method_9_code 1 = .ok (.istore_n 3, 1) := by decide +kernel
theorem d8_2 : decode prog_13_method_9_code 2 = .ok (.iload_n 3, 1) := by decide +kernel
theorem d8_3 : decode prog_13_method_9_code 3 = .ok (.aload_n 0, 1) := by decide +kernel
theorem d8_4 : decode prog_13_method_9_code 4 = .ok (.getfield 22, 3) := by decide +kernel
theorem d8_7 : decode prog_13_method_9_code 7 = .ok (.arraylength, 1) := by decide +kernel
theorem d8_8 : decode prog_13_method_9_code 8 = .ok (.if_icmp .ge 31, 3) := by decide +kernel
theorem d8_39 : decode prog_13_method_9_code 39 = .ok (.iconst 1, 1) := by decide +kernel
theorem d8_40 : decode prog_13_method_9_code 40 = .ok (.ireturn, 1) := by decide +kernel
theorem ef_rm_kh00 (m : MethodId) (x0 : Addr) (x2 : Addr) : entryFrame m #[(.ref x0), (.int (0 : Int32)), (.ref x2)] 4 = mkF m 0 #[.val (.ref x0), .val (.int (0 : Int32)), .val (.ref x2), .unset] [] := by first | (simp [entryFrame, mkF, argsToLocals, Value.category]; done) | rfl
set_option maxRecDepth 65536 in
set_option maxHeartbeats 40000000 in
theorem rm_kh00 (l : Launch) (Z : State) (a0 : Array Value) (hw : ∀ d ∈ tables_1, d.before a0 Z = true) (h0 : Heap) {lo : Nat} (a1 : Addr) (q1 : Addr) (k1 : Addr) (k2 : Addr) (k3 : Addr) (k4 : Addr) (k5 : Addr) (k6 : Addr) (bk : Addr) (pl : Addr) (sx : Addr) (x0 : Int32) (x1 : Int32) (x2 : Int32) (x3 : Int32) (w0 : Int32) (w1 : Int32) (e0 : Addr × oD) (e1 : Addr × oD) (e2 : Addr × oD) (e3 : Addr × oD) (e4 : Addr × oD) (e5 : Addr × oD) (e6 : Addr × oD) (e7 : Addr × oD) (e8 : Addr × oD) (e9 : Addr × oD) (e10 : Addr × oD) (e11 : Addr × oD) (e12 : Addr × oD) (e13 : Addr × oD) (e14 : Addr × oD) (e15 : Addr × oD) (e16 : Addr × oD) (e17 : Addr × oD) (e18 : Addr × oD) (e19 : Addr × oD) (e20 : Addr × oD) (ds : oDs) :
    oMet l Z h0 lo (⟨"com/example/tanglemark/tanglemark/datalog/FactoredRows", "keyHas", "(I[I)Z"⟩ : MethodName) prog_13_method_9_code 4 (some .boolean) [] ({ frames := 0, cells := 0, slots := 0, locals := 0 } : Room) #[(.ref a1), (.int (0 : Int32)), (.ref q1)] (e0 :: e1 :: e2 :: e3 :: e4 :: e5 :: e6 :: e7 :: e8 :: e9 :: e10 :: e11 :: e12 :: e13 :: e14 :: e15 :: e16 :: e17 :: e18 :: e19 :: e20 :: (a1, oO cn3 [(fk14, (.ref sx)), (fk15, (.int (3 : Int32))), (fk16, (.ref k1)), (fk17, (.ref pl)), (fk18, (.int (3 : Int32))), (fk19, (.ref k2)), (fk20, (.ref k3)), (fk21, (.ref k4)), (fk22, (.ref k5)), (fk23, (.ref k6)), (fk24, (.ref bk))]) :: (q1, oA .int [(.int w0), (.int w1)]) :: (k2, oA .int [(.int x0), (.int x1), (.int x2), (.int x3)]) :: (k1, oA .int []) :: ds) (fun (v : Option Value) (d : oDs) => (v = some (.int (1 : Int32)) ∧ (e0 :: e1 :: e2 :: e3 :: e4 :: e5 :: e6 :: e7 :: e8 :: e9 :: e10 :: e11 :: e12 :: e13 :: e14 :: e15 :: e16 :: e17 :: e18 :: e19 :: e20 :: (a1, oO cn3 [(fk14, (.ref sx)), (fk15, (.int (3 : Int32))), (fk16, (.ref k1)), (fk17, (.ref pl)), (fk18, (.int (3 : Int32))), (fk19, (.ref k2)), (fk20, (.ref k3)), (fk21, (.ref k4)), (fk22, (.ref k5)), (fk23, (.ref k6)), (fk24, (.ref bk))]) :: (q1, oA .int [(.int w0), (.int w1)]) :: (k2, oA .int [(.int x0), (.int x1), (.int x2), (.int x3)]) :: (k1, oA .int []) :: ds) = d)) := by
  refine oMet.of_body (plainFor_of_name pn_3) ?_
  intro p e s m below meth c T B hby hml hown hnm hret
  refine W_entry (ef_rm_kh00 m a1 q1) ?_
  refine W_iconst B (hb hby d8_0) (pc' := 1) rfl (z := (0 : Int32)) (by decide) ?_
  refine W_istoreN B (hb hby d8_1) (pc' := 2) rfl (v := (0 : Int32)) rfl (ls' := #[.val (.ref a1), .val (.int (0 : Int32)), .val (.ref q1), .val (.int (0 : Int32))]) rfl ?_
  refine W_iloadN B (hb hby d8_2) (pc' := 3) rfl rfl ?_
  refine W_aloadN B (hb hby d8_3) (pc' := 4) rfl rfl rfl ?_
  refine W_getfield B hown (host := "") (Or.inl (ow hw (i := 79) rfl)) Via.refl (hb hby d8_4) (pc' := 7) rfl (j := 21) rfl (q := 2) rfl ?_
  intro T B
  refine W_arraylength B (hb hby d8_7) (pc' := 8) rfl (j := 24) rfl (z := (0 : Int32)) rfl ?_
  refine W_icmpY B (hb hby d8_8) (by decide) (pc' := 39) (by decide) (by decide) ?_
  refine W_iconst B (hb hby d8_39) (pc' := 40) rfl (z := (1 : Int32)) (by decide) ?_
  refine W_retN B hret (by simp) (hb hby d8_40) (by decide) ?_
  exact ⟨rfl, rfl⟩
theorem ef_rm_kh01 (m : MethodId) (x0 : Addr) (x2 : Addr) : entryFrame m #[(.ref x0), (.int (1 : Int32)), (.ref x2)] 4 = mkF m 0 #[.val (.ref x0), .val (.int (1 : Int32)), .val (.ref x2), .unset] [] := by first | (simp [entryFrame, mkF, argsToLocals, Value.category]; done) | rfl
set_option maxRecDepth 65536 in
set_option maxHeartbeats 40000000 in
theorem rm_kh01 (l : Launch) (Z : State) (a0 : Array Value) (hw : ∀ d ∈ tables_1, d.before a0 Z = true) (h0 : Heap) {lo : Nat} (a1 : Addr) (q1 : Addr) (k1 : Addr) (k2 : Addr) (k3 : Addr) (k4 : Addr) (k5 : Addr) (k6 : Addr) (bk : Addr) (pl : Addr) (sx : Addr) (x0 : Int32) (x1 : Int32) (x2 : Int32) (x3 : Int32) (w0 : Int32) (w1 : Int32) (e0 : Addr × oD) (e1 : Addr × oD) (e2 : Addr × oD) (e3 : Addr × oD) (e4 : Addr × oD) (e5 : Addr × oD) (e6 : Addr × oD) (e7 : Addr × oD) (e8 : Addr × oD) (e9 : Addr × oD) (e10 : Addr × oD) (e11 : Addr × oD) (e12 : Addr × oD) (e13 : Addr × oD) (e14 : Addr × oD) (e15 : Addr × oD) (e16 : Addr × oD) (e17 : Addr × oD) (e18 : Addr × oD) (e19 : Addr × oD) (e20 : Addr × oD) (ds : oDs) :
    oMet l Z h0 lo (⟨"com/example/tanglemark/tanglemark/datalog/FactoredRows", "keyHas", "(I[I)Z"⟩ : MethodName) prog_13_method_9_code 4 (some .boolean) [] ({ frames := 0, cells := 0, slots := 0, locals := 0 } : Room) #[(.ref a1), (.int (1 : Int32)), (.ref q1)] (e0 :: e1 :: e2 :: e3 :: e4 :: e5 :: e6 :: e7 :: e8 :: e9 :: e10 :: e11 :: e12 :: e13 :: e14 :: e15 :: e16 :: e17 :: e18 :: e19 :: e20 :: (a1, oO cn3 [(fk14, (.ref sx)), (fk15, (.int (3 : Int32))), (fk16, (.ref k1)), (fk17, (.ref pl)), (fk18, (.int (3 : Int32))), (fk19, (.ref k2)), (fk20, (.ref k3)), (fk21, (.ref k4)), (fk22, (.ref k5)), (fk23, (.ref k6)), (fk24, (.ref bk))]) :: (q1, oA .int [(.int w0), (.int w1)]) :: (k2, oA .int [(.int x0), (.int x1), (.int x2), (.int x3)]) :: (k1, oA .int []) :: ds) (fun (v : Option Value) (d : oDs) => (v = some (.int (1 : Int32)) ∧ (e0 :: e1 :: e2 :: e3 :: e4 :: e5 :: e6 :: e7 :: e8 :: e9 :: e10 :: e11 :: e12 :: e13 :: e14 :: e15 :: e16 :: e17 :: e18 :: e19 :: e20 :: (a1, oO cn3 [(fk14, (.ref sx)), (fk15, (.int (3 : Int32))), (fk16, (.ref k1)), (fk17, (.ref pl)), (fk18, (.int (3 : Int32))), (fk19, (.ref k2)), (fk20, (.ref k3)), (fk21, (.ref k4)), (fk22, (.ref k5)), (fk23, (.ref k6)), (fk24, (.ref bk))]) :: (q1, oA .int [(.int w0), (.int w1)]) :: (k2, oA .int [(.int x0), (.int x1), (.int x2), (.int x3)]) :: (k1, oA .int []) :: ds) = d)) := by
  refine oMet.of_body (plainFor_of_name pn_3) ?_
  intro p e s m below meth c T B hby hml hown hnm hret
  refine W_entry (ef_rm_kh01 m a1 q1) ?_
  refine W_iconst B (hb hby d8_0) (pc' := 1) rfl (z := (0 : Int32)) (by decide) ?_
  refine W_istoreN B (hb hby d8_1) (pc' := 2) rfl (v := (0 : Int32)) rfl (ls' := #[.val (.ref a1), .val (.int (1 : Int32)), .val (.ref q1), .val (.int (0 : Int32))]) rfl ?_
  refine W_iloadN B (hb hby d8_2) (pc' := 3) rfl rfl ?_
  refine W_aloadN B (hb hby d8_3) (pc' := 4) rfl rfl rfl ?_
  refine W_getfield B hown (host := "") (Or.inl (ow hw (i := 79) rfl)) Via.refl (hb hby d8_4) (pc' := 7) rfl (j := 21) rfl (q := 2) rfl ?_
  intro T B
  refine W_arraylength B (hb hby d8_7) (pc' := 8) rfl (j := 24) rfl (z := (0 : Int32)) rfl ?_
  refine W_icmpY B (hb hby d8_8) (by decide) (pc' := 39) (by decide) (by decide) ?_
  refine W_iconst B (hb hby d8_39) (pc' := 40) rfl (z := (1 : Int32)) (by decide) ?_
  refine W_retN B hret (by simp) (hb hby d8_40) (by decide) ?_
  exact ⟨rfl, rfl⟩
theorem d8_11 : decode prog_13_method_9_code 11 = .ok (.aload_n 0, 1) := by decide +kernel
theorem d8_12 : decode prog_13_method_9_code 12 = .ok (.getfield 32, 3) := by decide +kernel
theorem d8_15 : decode prog_13_method_9_code 15 = .ok (.iload_n 1, 1) := by decide +kernel
theorem d8_16 : decode prog_13_method_9_code 16 = .ok (.aload_n 0, 1) := by decide +kernel
theorem d8_17 : decode prog_13_method_9_code 17 = .ok (.getfield 22, 3) := by decide +kernel
theorem d8_20 : decode prog_13_method_9_code 20 = .ok (.arraylength, 1) := by decide +kernel
theorem d8_21 : decode prog_13_method_9_code 21 = .ok (.imul, 1) := by decide +kernel
theorem d8_22 : decode prog_13_method_9_code 22 = .ok (.iload_n 3, 1) := by decide +kernel
theorem d8_23 : decode prog_13_method_9_code 23 = .ok (.iadd, 1) := by decide +kernel
theorem d8_24 : decode prog_13_method_9_code 24 = .ok (.iaload, 1) := by decide +kernel
theorem d8_25 : decode prog_13_method_9_code 25 = .ok (.aload_n 2, 1) := by decide +kernel
theorem d8_26 : decode prog_13_method_9_code 26 = .ok (.iload_n 3, 1) := by decide +kernel
theorem d8_27 : decode prog_13_method_9_code 27 = .ok (.iaload, 1) := by decide +kernel
theorem d8_28 : decode prog_13_method_9_code 28 = .ok (.if_icmp .eq 5, 3) := by decide +kernel
theorem d8_33 : decode prog_13_method_9_code 33 = .ok (.iinc 3 1, 3) := by decide +kernel
theorem d8_36 : decode prog_13_method_9_code 36 = .ok (.goto (-34), 3) := by decide +kernel
theorem d8_31 : decode prog_13_method_9_code 31 = .ok (.iconst 0, 1) := by decide +kernel
theorem d8_32 : decode prog_13_method_9_code 32 = .ok (.ireturn, 1) := by decide +kernel
theorem ef_rm_kh10 (m : MethodId) (x0 : Addr) (x2 : Addr) : entryFrame m #[(.ref x0), (.int (0 : Int32)), (.ref x2)] 4 = mkF m 0 #[.val (.ref x0), .val (.int (0 : Int32)), .val (.ref x2), .unset] [] := by first | (simp [entryFrame, mkF, argsToLocals, Value.category]; done) | rfl
set_option maxRecDepth 65536 in
set_option maxHeartbeats 40000000 in
theorem rm_kh10 (l : Launch) (Z : State) (a0 : Array Value) (hw : ∀ d ∈ tables_1, d.before a0 Z = true) (h0 : Heap) {lo : Nat} (a1 : Addr) (q1 : Addr) (k1 : Addr) (k2 : Addr) (k3 : Addr) (k4 : Addr) (k5 : Addr) (k6 : Addr) (bk : Addr) (pl : Addr) (sx : Addr) (x0 : Int32) (x1 : Int32) (x2 : Int32) (x3 : Int32) (w0 : Int32) (w1 : Int32) (e0 : Addr × oD) (e1 : Addr × oD) (e2 : Addr × oD) (e3 : Addr × oD) (e4 : Addr × oD) (e5 : Addr × oD) (e6 : Addr × oD) (e7 : Addr × oD) (e8 : Addr × oD) (e9 : Addr × oD) (e10 : Addr × oD) (e11 : Addr × oD) (e12 : Addr × oD) (e13 : Addr × oD) (e14 : Addr × oD) (e15 : Addr × oD) (e16 : Addr × oD) (e17 : Addr × oD) (e18 : Addr × oD) (e19 : Addr × oD) (e20 : Addr × oD) (ds : oDs) :
    oMet l Z h0 lo (⟨"com/example/tanglemark/tanglemark/datalog/FactoredRows", "keyHas", "(I[I)Z"⟩ : MethodName) prog_13_method_9_code 4 (some .boolean) [] ({ frames := 0, cells := 0, slots := 0, locals := 0 } : Room) #[(.ref a1), (.int (0 : Int32)), (.ref q1)] (e0 :: e1 :: e2 :: e3 :: e4 :: e5 :: e6 :: e7 :: e8 :: e9 :: e10 :: e11 :: e12 :: e13 :: e14 :: e15 :: e16 :: e17 :: e18 :: e19 :: e20 :: (a1, oO cn3 [(fk14, (.ref sx)), (fk15, (.int (3 : Int32))), (fk16, (.ref k1)), (fk17, (.ref pl)), (fk18, (.int (2 : Int32))), (fk19, (.ref k2)), (fk20, (.ref k3)), (fk21, (.ref k4)), (fk22, (.ref k5)), (fk23, (.ref k6)), (fk24, (.ref bk))]) :: (q1, oA .int [(.int w0), (.int w1)]) :: (k2, oA .int [(.int x0), (.int x1), (.int x2), (.int x3)]) :: (k1, oA .int [o0]) :: ds) (fun (v : Option Value) (d : oDs) => ((x0 = w0) ∧ v = some (.int (1 : Int32)) ∧ (e0 :: e1 :: e2 :: e3 :: e4 :: e5 :: e6 :: e7 :: e8 :: e9 :: e10 :: e11 :: e12 :: e13 :: e14 :: e15 :: e16 :: e17 :: e18 :: e19 :: e20 :: (a1, oO cn3 [(fk14, (.ref sx)), (fk15, (.int (3 : Int32))), (fk16, (.ref k1)), (fk17, (.ref pl)), (fk18, (.int (2 : Int32))), (fk19, (.ref k2)), (fk20, (.ref k3)), (fk21, (.ref k4)), (fk22, (.ref k5)), (fk23, (.ref k6)), (fk24, (.ref bk))]) :: (q1, oA .int [(.int w0), (.int w1)]) :: (k2, oA .int [(.int x0), (.int x1), (.int x2), (.int x3)]) :: (k1, oA .int [o0]) :: ds) = d) ∨ ((¬ x0 = w0) ∧ v = some (.int (0 : Int32)) ∧ (e0 :: e1 :: e2 :: e3 :: e4 :: e5 :: e6 :: e7 :: e8 :: e9 :: e10 :: e11 :: e12 :: e13 :: e14 :: e15 :: e16 :: e17 :: e18 :: e19 :: e20 :: (a1, oO cn3 [(fk14, (.ref sx)), (fk15, (.int (3 : Int32))), (fk16, (.ref k1)), (fk17, (.ref pl)), (fk18, (.int (2 : Int32))), (fk19, (.ref k2)), (fk20, (.ref k3)), (fk21, (.ref k4)), (fk22, (.ref k5)), (fk23, (.ref k6)), (fk24, (.ref bk))]) :: (q1, oA .int [(.int w0), (.int w1)]) :: (k2, oA .int [(.int x0), (.int x1), (.int x2), (.int x3)]) :: (k1, oA .int [o0]) :: ds) = d)) := by
  refine oMet.of_body (plainFor_of_name pn_3) ?_
  intro p e s m below meth c T B hby hml hown hnm hret
  refine W_entry (ef_rm_kh10 m a1 q1) ?_
  refine W_iconst B (hb hby d8_0) (pc' := 1) rfl (z := (0 : Int32)) (by decide) ?_
  refine W_istoreN B (hb hby d8_1) (pc' := 2) rfl (v := (0 : Int32)) rfl (ls' := #[.val (.ref a1), .val (.int (0 : Int32)), .val (.ref q1), .val (.int (0 : Int32))]) rfl ?_
  refine W_iloadN B (hb hby d8_2) (pc' := 3) rfl rfl ?_
  refine W_aloadN B (hb hby d8_3) (pc' := 4) rfl rfl rfl ?_
  refine W_getfield B hown (host := "") (Or.inl (ow hw (i := 79) rfl)) Via.refl (hb hby d8_4) (pc' := 7) rfl (j := 21) rfl (q := 2) rfl ?_
  intro T B
  refine W_arraylength B (hb hby d8_7) (pc' := 8) rfl (j := 24) rfl (z := (1 : Int32)) rfl ?_
  refine W_icmpN B (hb hby d8_8) (pc' := 11) rfl (by decide) ?_
  refine W_aloadN B (hb hby d8_11) (pc' := 12) rfl rfl rfl ?_
  refine W_getfield B hown (host := "") (Or.inl (ow hw (i := 85) rfl)) Via.refl (hb hby d8_12) (pc' := 15) rfl (j := 21) rfl (q := 5) rfl ?_
  intro T B
  refine W_iloadN B (hb hby d8_15) (pc' := 16) rfl rfl ?_
  refine W_aloadN B (hb hby d8_16) (pc' := 17) rfl rfl rfl ?_
  refine W_getfield B hown (host := "") (Or.inl (ow hw (i := 79) rfl)) Via.refl (hb hby d8_17) (pc' := 20) rfl (j := 21) rfl (q := 2) rfl ?_
  intro T B
  refine W_arraylength B (hb hby d8_20) (pc' := 21) rfl (j := 24) rfl (z := (1 : Int32)) rfl ?_
  refine W_imul B (hb hby d8_21) (pc' := 22) rfl (z := (0 : Int32)) (by decide) ?_
  refine W_iloadN B (hb hby d8_22) (pc' := 23) rfl rfl ?_
  refine W_iadd B (hb hby d8_23) (pc' := 24) rfl (z := (0 : Int32)) (by decide) ?_
  refine W_iaload B (hb hby d8_24) (pc' := 25) rfl (i := 23) rfl (by decide) (v := (.int x0)) rfl ?_
  refine W_aloadN B (hb hby d8_25) (pc' := 26) rfl rfl rfl ?_
  refine W_iloadN B (hb hby d8_26) (pc' := 27) rfl rfl ?_
  refine W_iaload B (hb hby d8_27) (pc' := 28) rfl (i := 22) rfl (by decide) (v := (.int w0)) rfl ?_
  refine W_icmp_eq B (hb hby d8_28) (by decide) (pt := 33) (by decide) (pc' := 31) rfl (fun (c26 : x0 = w0) => ?_) (fun (c26 : ¬ x0 = w0) => ?_)
  · refine W_iinc B (hb hby d8_33) (pc' := 36) rfl rfl (z := (1 : Int32)) (by decide) (ls' := #[.val (.ref a1), .val (.int (0 : Int32)), .val (.ref q1), .val (.int (1 : Int32))]) rfl ?_
    refine W_goto B (hb hby d8_36) (by decide) (pc' := 2) (by decide) ?_
    refine W_iloadN B (hb hby d8_2) (pc' := 3) rfl rfl ?_
    refine W_aloadN B (hb hby d8_3) (pc' := 4) rfl rfl rfl ?_
    refine W_getfield B hown (host := "") (Or.inl (ow hw (i := 79) rfl)) Via.refl (hb hby d8_4) (pc' := 7) rfl (j := 21) rfl (q := 2) rfl ?_
    intro T B
    refine W_arraylength B (hb hby d8_7) (pc' := 8) rfl (j := 24) rfl (z := (1 : Int32)) rfl ?_
    refine W_icmpY B (hb hby d8_8) (by decide) (pc' := 39) (by decide) (by decide) ?_
    refine W_iconst B (hb hby d8_39) (pc' := 40) rfl (z := (1 : Int32)) (by decide) ?_
    refine W_retN B hret (by simp) (hb hby d8_40) (by decide) ?_
    exact Or.inl ⟨c26, rfl, rfl⟩
  refine W_iconst B (hb hby d8_31) (pc' := 32) rfl (z := (0 : Int32)) (by decide) ?_
  refine W_retN B hret (by simp) (hb hby d8_32) (by decide) ?_
  exact Or.inr ⟨c26, rfl, rfl⟩
theorem ef_rm_kh11 (m : MethodId) (x0 : Addr) (x2 : Addr) : entryFrame m #[(.ref x0), (.int (1 : Int32)), (.ref x2)] 4 = mkF m 0 #[.val (.ref x0), .val (.int (1 : Int32)), .val (.ref x2), .unset] [] := by first | (simp [entryFrame, mkF, argsToLocals, Value.category]; done) | rfl
set_option maxRecDepth 65536 in
set_option maxHeartbeats 40000000 in
theorem rm_kh11 (l : Launch) (Z : State) (a0 : Array Value) (hw : ∀ d ∈ tables_1, d.before a0 Z = true) (h0 : Heap) {lo : Nat} (a1 : Addr) (q1 : Addr) (k1 : Addr) (k2 : Addr) (k3 : Addr) (k4 : Addr) (k5 : Addr) (k6 : Addr) (bk : Addr) (pl : Addr) (sx : Addr) (x0 : Int32) (x1 : Int32) (x2 : Int32) (x3 : Int32) (w0 : Int32) (w1 : Int32) (e0 : Addr × oD) (e1 : Addr × oD) (e2 : Addr × oD) (e3 : Addr × oD) (e4 : Addr × oD) (e5 : Addr × oD) (e6 : Addr × oD) (e7 : Addr × oD) (e8 : Addr × oD) (e9 : Addr × oD) (e10 : Addr × oD) (e11 : Addr × oD) (e12 : Addr × oD) (e13 : Addr × oD) (e14 : Addr × oD) (e15 : Addr × oD) (e16 : Addr × oD) (e17 : Addr × oD) (e18 : Addr × oD) (e19 : Addr × oD) (e20 : Addr × oD) (ds : oDs) :
    oMet l Z h0 lo (⟨"com/example/tanglemark/tanglemark/datalog/FactoredRows", "keyHas", "(I[I)Z"⟩ : MethodName) prog_13_method_9_code 4 (some .boolean) [] ({ frames := 0, cells := 0, slots := 0, locals := 0 } : Room) #[(.ref a1), (.int (1 : Int32)), (.ref q1)] (e0 :: e1 :: e2 :: e3 :: e4 :: e5 :: e6 :: e7 :: e8 :: e9 :: e10 :: e11 :: e12 :: e13 :: e14 :: e15 :: e16 :: e17 :: e18 :: e19 :: e20 :: (a1, oO cn3 [(fk14, (.ref sx)), (fk15, (.int (3 : Int32))), (fk16, (.ref k1)), (fk17, (.ref pl)), (fk18, (.int (2 : Int32))), (fk19, (.ref k2)), (fk20, (.ref k3)), (fk21, (.ref k4)), (fk22, (.ref k5)), (fk23, (.ref k6)), (fk24, (.ref bk))]) :: (q1, oA .int [(.int w0), (.int w1)]) :: (k2, oA .int [(.int x0), (.int x1), (.int x2), (.int x3)]) :: (k1, oA .int [o0]) :: ds) (fun (v : Option Value) (d : oDs) => ((x1 = w0) ∧ v = some (.int (1 : Int32)) ∧ (e0 :: e1 :: e2 :: e3 :: e4 :: e5 :: e6 :: e7 :: e8 :: e9 :: e10 :: e11 :: e12 :: e13 :: e14 :: e15 :: e16 :: e17 :: e18 :: e19 :: e20 :: (a1, oO cn3 [(fk14, (.ref sx)), (fk15, (.int (3 : Int32))), (fk16, (.ref k1)), (fk17, (.ref pl)), (fk18, (.int (2 : Int32))), (fk19, (.ref k2)), (fk20, (.ref k3)), (fk21, (.ref k4)), (fk22, (.ref k5)), (fk23, (.ref k6)), (fk24, (.ref bk))]) :: (q1, oA .int [(.int w0), (.int w1)]) :: (k2, oA .int [(.int x0), (.int x1), (.int x2), (.int x3)]) :: (k1, oA .int [o0]) :: ds) = d) ∨ ((¬ x1 = w0) ∧ v = some (.int (0 : Int32)) ∧ (e0 :: e1 :: e2 :: e3 :: e4 :: e5 :: e6 :: e7 :: e8 :: e9 :: e10 :: e11 :: e12 :: e13 :: e14 :: e15 :: e16 :: e17 :: e18 :: e19 :: e20 :: (a1, oO cn3 [(fk14, (.ref sx)), (fk15, (.int (3 : Int32))), (fk16, (.ref k1)), (fk17, (.ref pl)), (fk18, (.int (2 : Int32))), (fk19, (.ref k2)), (fk20, (.ref k3)), (fk21, (.ref k4)), (fk22, (.ref k5)), (fk23, (.ref k6)), (fk24, (.ref bk))]) :: (q1, oA .int [(.int w0), (.int w1)]) :: (k2, oA .int [(.int x0), (.int x1), (.int x2), (.int x3)]) :: (k1, oA .int [o0]) :: ds) = d)) := by
  refine oMet.of_body (plainFor_of_name pn_3) ?_
  intro p e s m below meth c T B hby hml hown hnm hret
  refine W_entry (ef_rm_kh11 m a1 q1) ?_
  refine W_iconst B (hb hby d8_0) (pc' := 1) rfl (z := (0 : Int32)) (by decide) ?_
  refine W_istoreN B (hb hby d8_1) (pc' := 2) rfl (v := (0 : Int32)) rfl (ls' := #[.val (.ref a1), .val (.int (1 : Int32)), .val (.ref q1), .val (.int (0 : Int32))]) rfl ?_
  refine W_iloadN B (hb hby d8_2) (pc' := 3) rfl rfl ?_
  refine W_aloadN B (hb hby d8_3) (pc' := 4) rfl rfl rfl ?_
  refine W_getfield B hown (host := "") (Or.inl (ow hw (i := 79) rfl)) Via.refl (hb hby d8_4) (pc' := 7) rfl (j := 21) rfl (q := 2) rfl ?_
  intro T B
  refine W_arraylength B (hb hby d8_7) (pc' := 8) rfl (j := 24) rfl (z := (1 : Int32)) rfl ?_
  refine W_icmpN B (hb hby d8_8) (pc' := 11) rfl (by decide) ?_
  refine W_aloadN B (hb hby d8_11) (pc' := 12) rfl rfl rfl ?_
  refine W_getfield B hown (host := "") (Or.inl (ow hw (i := 85) rfl)) Via.refl (hb hby d8_12) (pc' := 15) rfl (j := 21) rfl (q := 5) rfl ?_
  intro T B
  refine W_iloadN B (hb hby d8_15) (pc' := 16) rfl rfl ?_
  refine W_aloadN B (hb hby d8_16) (pc' := 17) rfl rfl rfl ?_
  refine W_getfield B hown (host := "") (Or.inl (ow hw (i := 79) rfl)) Via.refl (hb hby d8_17) (pc' := 20) rfl (j := 21) rfl (q := 2) rfl ?_
  intro T B
  refine W_arraylength B (hb hby d8_20) (pc' := 21) rfl (j := 24) rfl (z := (1 : Int32)) rfl ?_
  refine W_imul B (hb hby d8_21) (pc' := 22) rfl (z := (1 : Int32)) (by decide) ?_
  refine W_iloadN B (hb hby d8_22) (pc' := 23) rfl rfl ?_
  refine W_iadd B (hb hby d8_23) (pc' := 24) rfl (z := (1 : Int32)) (by decide) ?_
  refine W_iaload B (hb hby d8_24) (pc' := 25) rfl (i := 23) rfl (by decide) (v := (.int x1)) rfl ?_
  refine W_aloadN B (hb hby d8_25) (pc' := 26) rfl rfl rfl ?_
  refine W_iloadN B (hb hby d8_26) (pc' := 27) rfl rfl ?_
  refine W_iaload B (hb hby d8_27) (pc' := 28) rfl (i := 22) rfl (by decide) (v := (.int w0)) rfl ?_
  refine W_icmp_eq B (hb hby d8_28) (by decide) (pt := 33) (by decide) (pc' := 31) rfl (fun (c27 : x1 = w0) => ?_) (fun (c27 : ¬ x1 = w0) => ?_)
  · refine W_iinc B (hb hby d8_33) (pc' := 36) rfl rfl (z := (1 : Int32)) (by decide) (ls' := #[.val (.ref a1), .val (.int (1 : Int32)), .val (.ref q1), .val (.int (1 : Int32))]) rfl ?_
    refine W_goto B (hb hby d8_36) (by decide) (pc' := 2) (by decide) ?_
    refine W_iloadN B (hb hby d8_2) (pc' := 3) rfl rfl ?_
    refine W_aloadN B (hb hby d8_3) (pc' := 4) rfl rfl rfl ?_
    refine W_getfield B hown (host := "") (Or.inl (ow hw (i := 79) rfl)) Via.refl (hb hby d8_4) (pc' := 7) rfl (j := 21) rfl (q := 2) rfl ?_
    intro T B
    refine W_arraylength B (hb hby d8_7) (pc' := 8) rfl (j := 24) rfl (z := (1 : Int32)) rfl ?_
    refine W_icmpY B (hb hby d8_8) (by decide) (pc' := 39) (by decide) (by decide) ?_
    refine W_iconst B (hb hby d8_39) (pc' := 40) rfl (z := (1 : Int32)) (by decide) ?_
    refine W_retN B hret (by simp) (hb hby d8_40) (by decide) ?_
    exact Or.inl ⟨c27, rfl, rfl⟩
  refine W_iconst B (hb hby d8_31) (pc' := 32) rfl (z := (0 : Int32)) (by decide) ?_
  refine W_retN B hret (by simp) (hb hby d8_32) (by decide) ?_
  exact Or.inr ⟨c27, rfl, rfl⟩
theorem ef_rm_kh20 (m : MethodId) (x0 : Addr) (x2 : Addr) : entryFrame m #[(.ref x0), (.int (0 : Int32)), (.ref x2)] 4 = mkF m 0 #[.val (.ref x0), .val (.int (0 : Int32)), .val (.ref x2), .unset] [] := by first | (simp [entryFrame, mkF, argsToLocals, Value.category]; done) | rfl
set_option maxRecDepth 65536 in
set_option maxHeartbeats 40000000 in
theorem rm_kh20 (l : Launch) (Z : State) (a0 : Array Value) (hw : ∀ d ∈ tables_1, d.before a0 Z = true) (h0 : Heap) {lo : Nat} (a1 : Addr) (q1 : Addr) (k1 : Addr) (k2 : Addr) (k3 : Addr) (k4 : Addr) (k5 : Addr) (k6 : Addr) (bk : Addr) (pl : Addr) (sx : Addr) (x0 : Int32) (x1 : Int32) (x2 : Int32) (x3 : Int32) (w0 : Int32) (w1 : Int32) (e0 : Addr × oD) (e1 : Addr × oD) (e2 : Addr × oD) (e3 : Addr × oD) (e4 : Addr × oD) (e5 : Addr × oD) (e6 : Addr × oD) (e7 : Addr × oD) (e8 : Addr × oD) (e9 : Addr × oD) (e10 : Addr × oD) (e11 : Addr × oD) (e12 : Addr × oD) (e13 : Addr × oD) (e14 : Addr × oD) (e15 : Addr × oD) (e16 : Addr × oD) (e17 : Addr × oD) (e18 : Addr × oD) (e19 : Addr × oD) (e20 : Addr × oD) (ds : oDs) :
    oMet l Z h0 lo (⟨"com/example/tanglemark/tanglemark/datalog/FactoredRows", "keyHas", "(I[I)Z"⟩ : MethodName) prog_13_method_9_code 4 (some .boolean) [] ({ frames := 0, cells := 0, slots := 0, locals := 0 } : Room) #[(.ref a1), (.int (0 : Int32)), (.ref q1)] (e0 :: e1 :: e2 :: e3 :: e4 :: e5 :: e6 :: e7 :: e8 :: e9 :: e10 :: e11 :: e12 :: e13 :: e14 :: e15 :: e16 :: e17 :: e18 :: e19 :: e20 :: (a1, oO cn3 [(fk14, (.ref sx)), (fk15, (.int (3 : Int32))), (fk16, (.ref k1)), (fk17, (.ref pl)), (fk18, (.int (1 : Int32))), (fk19, (.ref k2)), (fk20, (.ref k3)), (fk21, (.ref k4)), (fk22, (.ref k5)), (fk23, (.ref k6)), (fk24, (.ref bk))]) :: (q1, oA .int [(.int w0), (.int w1)]) :: (k2, oA .int [(.int x0), (.int x1), (.int x2), (.int x3)]) :: (k1, oA .int [o0, (.int (1 : Int32))]) :: ds) (fun (v : Option Value) (d : oDs) => ((x0 = w0) ∧ (x1 = w1) ∧ v = some (.int (1 : Int32)) ∧ (e0 :: e1 :: e2 :: e3 :: e4 :: e5 :: e6 :: e7 :: e8 :: e9 :: e10 :: e11 :: e12 :: e13 :: e14 :: e15 :: e16 :: e17 :: e18 :: e19 :: e20 :: (a1, oO cn3 [(fk14, (.ref sx)), (fk15, (.int (3 : Int32))), (fk16, (.ref k1)), (fk17, (.ref pl)), (fk18, (.int (1 : Int32))), (fk19, (.ref k2)), (fk20, (.ref k3)), (fk21, (.ref k4)), (fk22, (.ref k5)), (fk23, (.ref k6)), (fk24, (.ref bk))]) :: (q1, oA .int [(.int w0), (.int w1)]) :: (k2, oA .int [(.int x0), (.int x1), (.int x2), (.int x3)]) :: (k1, oA .int [o0, (.int (1 : Int32))]) :: ds) = d) ∨ ((x0 = w0) ∧ (¬ x1 = w1) ∧ v = some (.int (0 : Int32)) ∧ (e0 :: e1 :: e2 :: e3 :: e4 :: e5 :: e6 :: e7 :: e8 :: e9 :: e10 :: e11 :: e12 :: e13 :: e14 :: e15 :: e16 :: e17 :: e18 :: e19 :: e20 :: (a1, oO cn3 [(fk14, (.ref sx)), (fk15, (.int (3 : Int32))), (fk16, (.ref k1)), (fk17, (.ref pl)), (fk18, (.int (1 : Int32))), (fk19, (.ref k2)), (fk20, (.ref k3)), (fk21, (.ref k4)), (fk22, (.ref k5)), (fk23, (.ref k6)), (fk24, (.ref bk))]) :: (q1, oA .int [(.int w0), (.int w1)]) :: (k2, oA .int [(.int x0), (.int x1), (.int x2), (.int x3)]) :: (k1, oA .int [o0, (.int (1 : Int32))]) :: ds) = d) ∨ ((¬ x0 = w0) ∧ v = some (.int (0 : Int32)) ∧ (e0 :: e1 :: e2 :: e3 :: e4 :: e5 :: e6 :: e7 :: e8 :: e9 :: e10 :: e11 :: e12 :: e13 :: e14 :: e15 :: e16 :: e17 :: e18 :: e19 :: e20 :: (a1, oO cn3 [(fk14, (.ref sx)), (fk15, (.int (3 : Int32))), (fk16, (.ref k1)), (fk17, (.ref pl)), (fk18, (.int (1 : Int32))), (fk19, (.ref k2)), (fk20, (.ref k3)), (fk21, (.ref k4)), (fk22, (.ref k5)), (fk23, (.ref k6)), (fk24, (.ref bk))]) :: (q1, oA .int [(.int w0), (.int w1)]) :: (k2, oA .int [(.int x0), (.int x1), (.int x2), (.int x3)]) :: (k1, oA .int [o0, (.int (1 : Int32))]) :: ds) = d)) := by
  refine oMet.of_body (plainFor_of_name pn_3) ?_
  intro p e s m below meth c T B hby hml hown hnm hret
  refine W_entry (ef_rm_kh20 m a1 q1) ?_
  refine W_iconst B (hb hby d8_0) (pc' := 1) rfl (z := (0 : Int32)) (by decide) ?_
  refine W_istoreN B (hb hby d8_1) (pc' := 2) rfl (v := (0 : Int32)) rfl (ls' := #[.val (.ref a1), .val (.int (0 : Int32)), .val (.ref q1), .val (.int (0 : Int32))]) rfl ?_
  refine W_iloadN B (hb hby d8_2) (pc' := 3) rfl rfl ?_
  refine W_aloadN B (hb hby d8_3) (pc' := 4) rfl rfl rfl ?_
  refine W_getfield B hown (host := "") (Or.inl (ow hw (i := 79) rfl)) Via.refl (hb hby d8_4) (pc' := 7) rfl (j := 21) rfl (q := 2) rfl ?_
  intro T B
  refine W_arraylength B (hb hby d8_7) (pc' := 8) rfl (j := 24) rfl (z := (2 : Int32)) rfl ?_
  refine W_icmpN B (hb hby d8_8) (pc' := 11) rfl (by decide) ?_
  refine W_aloadN B (hb hby d8_11) (pc' := 12) rfl rfl rfl ?_
  refine W_getfield B hown (host := "") (Or.inl (ow hw (i := 85) rfl)) Via.refl (hb hby d8_12) (pc' := 15) rfl (j := 21) rfl (q := 5) rfl ?_
  intro T B
  refine W_iloadN B (hb hby d8_15) (pc' := 16) rfl rfl ?_
  refine W_aloadN B (hb hby d8_16) (pc' := 17) rfl rfl rfl ?_
  refine W_getfield B hown (host := "") (Or.inl (ow hw (i := 79) rfl)) Via.refl (hb hby d8_17) (pc' := 20) rfl (j := 21) rfl (q := 2) rfl ?_
  intro T B
  refine W_arraylength B (hb hby d8_20) (pc' := 21) rfl (j := 24) rfl (z := (2 : Int32)) rfl ?_
  refine W_imul B (hb hby d8_21) (pc' := 22) rfl (z := (0 : Int32)) (by decide) ?_
  refine W_iloadN B (hb hby d8_22) (pc' := 23) rfl rfl ?_
  refine W_iadd B (hb hby d8_23) (pc' := 24) rfl (z := (0 : Int32)) (by decide) ?_
  refine W_iaload B (hb hby d8_24) (pc' := 25) rfl (i := 23) rfl (by decide) (v := (.int x0)) rfl ?_
  refine W_aloadN B (hb hby d8_25) (pc' := 26) rfl rfl rfl ?_
  refine W_iloadN B (hb hby d8_26) (pc' := 27) rfl rfl ?_
  refine W_iaload B (hb hby d8_27) (pc' := 28) rfl (i := 22) rfl (by decide) (v := (.int w0)) rfl ?_
  refine W_icmp_eq B (hb hby d8_28) (by decide) (pt := 33) (by decide) (pc' := 31) rfl (fun (c28 : x0 = w0) => ?_) (fun (c28 : ¬ x0 = w0) => ?_)
  · refine W_iinc B (hb hby d8_33) (pc' := 36) rfl rfl (z := (1 : Int32)) (by decide) (ls' := #[.val (.ref a1), .val (.int (0 : Int32)), .val (.ref q1), .val (.int (1 : Int32))]) rfl ?_
    refine W_goto B (hb hby d8_36) (by decide) (pc' := 2) (by decide) ?_
    refine W_iloadN B (hb hby d8_2) (pc' := 3) rfl rfl ?_
    refine W_aloadN B (hb hby d8_3) (pc' := 4) rfl rfl rfl ?_
    refine W_getfield B hown (host := "") (Or.inl (ow hw (i := 79) rfl)) Via.refl (hb hby d8_4) (pc' := 7) rfl (j := 21) rfl (q := 2) rfl ?_
    intro T B
    refine W_arraylength B (hb hby d8_7) (pc' := 8) rfl (j := 24) rfl (z := (2 : Int32)) rfl ?_
    refine W_icmpN B (hb hby d8_8) (pc' := 11) rfl (by decide) ?_
    refine W_aloadN B (hb hby d8_11) (pc' := 12) rfl rfl rfl ?_
    refine W_getfield B hown (host := "") (Or.inl (ow hw (i := 85) rfl)) Via.refl (hb hby d8_12) (pc' := 15) rfl (j := 21) rfl (q := 5) rfl ?_
    intro T B
    refine W_iloadN B (hb hby d8_15) (pc' := 16) rfl rfl ?_
    refine W_aloadN B (hb hby d8_16) (pc' := 17) rfl rfl rfl ?_
    refine W_getfield B hown (host := "") (Or.inl (ow hw (i := 79) rfl)) Via.refl (hb hby d8_17) (pc' := 20) rfl (j := 21) rfl (q := 2) rfl ?_
    intro T B
    refine W_arraylength B (hb hby d8_20) (pc' := 21) rfl (j := 24) rfl (z := (2 : Int32)) rfl ?_
    refine W_imul B (hb hby d8_21) (pc' := 22) rfl (z := (0 : Int32)) (by decide) ?_
    refine W_iloadN B (hb hby d8_22) (pc' := 23) rfl rfl ?_
    refine W_iadd B (hb hby d8_23) (pc' := 24) rfl (z := (1 : Int32)) (by decide) ?_
    refine W_iaload B (hb hby d8_24) (pc' := 25) rfl (i := 23) rfl (by decide) (v := (.int x1)) rfl ?_
    refine W_aloadN B (hb hby d8_25) (pc' := 26) rfl rfl rfl ?_
    refine W_iloadN B (hb hby d8_26) (pc' := 27) rfl rfl ?_
    refine W_iaload B (hb hby d8_27) (pc' := 28) rfl (i := 22) rfl (by decide) (v := (.int w1)) rfl ?_
    refine W_icmp_eq B (hb hby d8_28) (by decide) (pt := 33) (by decide) (pc' := 31) rfl (fun (c29 : x1 = w1) => ?_) (fun (c29 : ¬ x1 = w1) => ?_)
    · refine W_iinc B (hb hby d8_33) (pc' := 36) rfl rfl (z := (2 : Int32)) (by decide) (ls' := #[.val (.ref a1), .val (.int (0 : Int32)), .val (.ref q1), .val (.int (2 : Int32))]) rfl ?_
      refine W_goto B (hb hby d8_36) (by decide) (pc' := 2) (by decide) ?_
      refine W_iloadN B (hb hby d8_2) (pc' := 3) rfl rfl ?_
      refine W_aloadN B (hb hby d8_3) (pc' := 4) rfl rfl rfl ?_
      refine W_getfield B hown (host := "") (Or.inl (ow hw (i := 79) rfl)) Via.refl (hb hby d8_4) (pc' := 7) rfl (j := 21) rfl (q := 2) rfl ?_
      intro T B
      refine W_arraylength B (hb hby d8_7) (pc' := 8) rfl (j := 24) rfl (z := (2 : Int32)) rfl ?_
      refine W_icmpY B (hb hby d8_8) (by decide) (pc' := 39) (by decide) (by decide) ?_
      refine W_iconst B (hb hby d8_39) (pc' := 40) rfl (z := (1 : Int32)) (by decide) ?_
      refine W_retN B hret (by simp) (hb hby d8_40) (by decide) ?_
      exact Or.inl ⟨c28, c29, rfl, rfl⟩
    refine W_iconst B (hb hby d8_31) (pc' := 32) rfl (z := (0 : Int32)) (by decide) ?_
    refine W_retN B hret (by simp) (hb hby d8_32) (by decide) ?_
    exact Or.inr (Or.inl ⟨c28, c29, rfl, rfl⟩)
  refine W_iconst B (hb hby d8_31) (pc' := 32) rfl (z := (0 : Int32)) (by decide) ?_
  refine W_retN B hret (by simp) (hb hby d8_32) (by decide) ?_
  exact Or.inr (Or.inr ⟨c28, rfl, rfl⟩)
theorem ef_rm_kh21 (m : MethodId) (x0 : Addr) (x2 : Addr) : entryFrame m #[(.ref x0), (.int (1 : Int32)), (.ref x2)] 4 = mkF m 0 #[.val (.ref x0), .val (.int (1 : Int32)), .val (.ref x2), .unset] [] := by first | (simp [entryFrame, mkF, argsToLocals, Value.category]; done) | rfl
set_option maxRecDepth 65536 in
set_option maxHeartbeats 40000000 in
theorem rm_kh21 (l : Launch) (Z : State) (a0 : Array Value) (hw : ∀ d ∈ tables_1, d.before a0 Z = true) (h0 : Heap) {lo : Nat} (a1 : Addr) (q1 : Addr) (k1 : Addr) (k2 : Addr) (k3 : Addr) (k4 : Addr) (k5 : Addr) (k6 : Addr) (bk : Addr) (pl : Addr) (sx : Addr) (x0 : Int32) (x1 : Int32) (x2 : Int32) (x3 : Int32) (w0 : Int32) (w1 : Int32) (e0 : Addr × oD) (e1 : Addr × oD) (e2 : Addr × oD) (e3 : Addr × oD) (e4 : Addr × oD) (e5 : Addr × oD) (e6 : Addr × oD) (e7 : Addr × oD) (e8 : Addr × oD) (e9 : Addr × oD) (e10 : Addr × oD) (e11 : Addr × oD) (e12 : Addr × oD) (e13 : Addr × oD) (e14 : Addr × oD) (e15 : Addr × oD) (e16 : Addr × oD) (e17 : Addr × oD) (e18 : Addr × oD) (e19 : Addr × oD) (e20 : Addr × oD) (ds : oDs) :
    oMet l Z h0 lo (⟨"com/example/tanglemark/tanglemark/datalog/FactoredRows", "keyHas", "(I[I)Z"⟩ : MethodName) prog_13_method_9_code 4 (some .boolean) [] ({ frames := 0, cells := 0, slots := 0, locals := 0 } : Room) #[(.ref a1), (.int (1 : Int32)), (.ref q1)] (e0 :: e1 :: e2 :: e3 :: e4 :: e5 :: e6 :: e7 :: e8 :: e9 :: e10 :: e11 :: e12 :: e13 :: e14 :: e15 :: e16 :: e17 :: e18 :: e19 :: e20 :: (a1, oO cn3 [(fk14, (.ref sx)), (fk15, (.int (3 : Int32))), (fk16, (.ref k1)), (fk17, (.ref pl)), (fk18, (.int (1 : Int32))), (fk19, (.ref k2)), (fk20, (.ref k3)), (fk21, (.ref k4)), (fk22, (.ref k5)), (fk23, (.ref k6)), (fk24, (.ref bk))]) :: (q1, oA .int [(.int w0), (.int w1)]) :: (k2, oA .int [(.int x0), (.int x1), (.int x2), (.int x3)]) :: (k1, oA .int [o0, (.int (1 : Int32))]) :: ds) (fun (v : Option Value) (d : oDs) => ((x2 = w0) ∧ (x3 = w1) ∧ v = some (.int (1 : Int32)) ∧ (e0 :: e1 :: e2 :: e3 :: e4 :: e5 :: e6 :: e7 :: e8 :: e9 :: e10 :: e11 :: e12 :: e13 :: e14 :: e15 :: e16 :: e17 :: e18 :: e19 :: e20 :: (a1, oO cn3 [(fk14, (.ref sx)), (fk15, (.int (3 : Int32))), (fk16, (.ref k1)), (fk17, (.ref pl)), (fk18, (.int (1 : Int32))), (fk19, (.ref k2)), (fk20, (.ref k3)), (fk21, (.ref k4)), (fk22, (.ref k5)), (fk23, (.ref k6)), (fk24, (.ref bk))]) :: (q1, oA .int [(.int w0), (.int w1)]) :: (k2, oA .int [(.int x0), (.int x1), (.int x2), (.int x3)]) :: (k1, oA .int [o0, (.int (1 : Int32))]) :: ds) = d) ∨ ((x2 = w0) ∧ (¬ x3 = w1) ∧ v = some (.int (0 : Int32)) ∧ (e0 :: e1 :: e2 :: e3 :: e4 :: e5 :: e6 :: e7 :: e8 :: e9 :: e10 :: e11 :: e12 :: e13 :: e14 :: e15 :: e16 :: e17 :: e18 :: e19 :: e20 :: (a1, oO cn3 [(fk14, (.ref sx)), (fk15, (.int (3 : Int32))), (fk16, (.ref k1)), (fk17, (.ref pl)), (fk18, (.int (1 : Int32))), (fk19, (.ref k2)), (fk20, (.ref k3)), (fk21, (.ref k4)), (fk22, (.ref k5)), (fk23, (.ref k6)), (fk24, (.ref bk))]) :: (q1, oA .int [(.int w0), (.int w1)]) :: (k2, oA .int [(.int x0), (.int x1), (.int x2), (.int x3)]) :: (k1, oA .int [o0, (.int (1 : Int32))]) :: ds) = d) ∨ ((¬ x2 = w0) ∧ v = some (.int (0 : Int32)) ∧ (e0 :: e1 :: e2 :: e3 :: e4 :: e5 :: e6 :: e7 :: e8 :: e9 :: e10 :: e11 :: e12 :: e13 :: e14 :: e15 :: e16 :: e17 :: e18 :: e19 :: e20 :: (a1, oO cn3 [(fk14, (.ref sx)), (fk15, (.int (3 : Int32))), (fk16, (.ref k1)), (fk17, (.ref pl)), (fk18, (.int (1 : Int32))), (fk19, (.ref k2)), (fk20, (.ref k3)), (fk21, (.ref k4)), (fk22, (.ref k5)), (fk23, (.ref k6)), (fk24, (.ref bk))]) :: (q1, oA .int [(.int w0), (.int w1)]) :: (k2, oA .int [(.int x0), (.int x1), (.int x2), (.int x3)]) :: (k1, oA .int [o0, (.int (1 : Int32))]) :: ds) = d)) := by
  refine oMet.of_body (plainFor_of_name pn_3) ?_
  intro p e s m below meth c T B hby hml hown hnm hret
  refine W_entry (ef_rm_kh21 m a1 q1) ?_
  refine W_iconst B (hb hby d8_0) (pc' := 1) rfl (z := (0 : Int32)) (by decide) ?_
  refine W_istoreN B (hb hby d8_1) (pc' := 2) rfl (v := (0 : Int32)) rfl (ls' := #[.val (.ref a1), .val (.int (1 : Int32)), .val (.ref q1), .val (.int (0 : Int32))]) rfl ?_
  refine W_iloadN B (hb hby d8_2) (pc' := 3) rfl rfl ?_
  refine W_aloadN B (hb hby d8_3) (pc' := 4) rfl rfl rfl ?_
  refine W_getfield B hown (host := "") (Or.inl (ow hw (i := 79) rfl)) Via.refl (hb hby d8_4) (pc' := 7) rfl (j := 21) rfl (q := 2) rfl ?_
  intro T B
  refine W_arraylength B (hb hby d8_7) (pc' := 8) rfl (j := 24) rfl (z := (2 : Int32)) rfl ?_
  refine W_icmpN B (hb hby d8_8) (pc' := 11) rfl (by decide) ?_
  refine W_aloadN B (hb hby d8_11) (pc' := 12) rfl rfl rfl ?_
  refine W_getfield B hown (host := "") (Or.inl (ow hw (i := 85) rfl)) Via.refl (hb hby d8_12) (pc' := 15) rfl (j := 21) rfl (q := 5) rfl ?_
  intro T B
  refine W_iloadN B (hb hby d8_15) (pc' := 16) rfl rfl ?_
  refine W_aloadN B (hb hby d8_16) (pc' := 17) rfl rfl rfl ?_
  refine W_getfield B hown (host := "") (Or.inl (ow hw (i := 79) rfl)) Via.refl (hb hby d8_17) (pc' := 20) rfl (j := 21) rfl (q := 2) rfl ?_
  intro T B
  refine W_arraylength B (hb hby d8_20) (pc' := 21) rfl (j := 24) rfl (z := (2 : Int32)) rfl ?_
  refine W_imul B (hb hby d8_21) (pc' := 22) rfl (z := (2 : Int32)) (by decide) ?_
  refine W_iloadN B (hb hby d8_22) (pc' := 23) rfl rfl ?_
  refine W_iadd B (hb hby d8_23) (pc' := 24) rfl (z := (2 : Int32)) (by decide) ?_
  refine W_iaload B (hb hby d8_24) (pc' := 25) rfl (i := 23) rfl (by decide) (v := (.int x2)) rfl ?_
  refine W_aloadN B (hb hby d8_25) (pc' := 26) rfl rfl rfl ?_
  refine W_iloadN B (hb hby d8_26) (pc' := 27) rfl rfl ?_
  refine W_iaload B (hb hby d8_27) (pc' := 28) rfl (i := 22) rfl (by decide) (v := (.int w0)) rfl ?_
  refine W_icmp_eq B (hb hby d8_28) (by decide) (pt := 33) (by decide) (pc' := 31) rfl (fun (c30 : x2 = w0) => ?_) (fun (c30 : ¬ x2 = w0) => ?_)
  · refine W_iinc B (hb hby d8_33) (pc' := 36) rfl rfl (z := (1 : Int32)) (by decide) (ls' := #[.val (.ref a1), .val (.int (1 : Int32)), .val (.ref q1), .val (.int (1 : Int32))]) rfl ?_
    refine W_goto B (hb hby d8_36) (by decide) (pc' := 2) (by decide) ?_
    refine W_iloadN B (hb hby d8_2) (pc' := 3) rfl rfl ?_
    refine W_aloadN B (hb hby d8_3) (pc' := 4) rfl rfl rfl ?_
    refine W_getfield B hown (host := "") (Or.inl (ow hw (i := 79) rfl)) Via.refl (hb hby d8_4) (pc' := 7) rfl (j := 21) rfl (q := 2) rfl ?_
    intro T B
    refine W_arraylength B (hb hby d8_7) (pc' := 8) rfl (j := 24) rfl (z := (2 : Int32)) rfl ?_
    refine W_icmpN B (hb hby d8_8) (pc' := 11) rfl (by decide) ?_
    refine W_aloadN B (hb hby d8_11) (pc' := 12) rfl rfl rfl ?_
    refine W_getfield B hown (host := "") (Or.inl (ow hw (i := 85) rfl)) Via.refl (hb hby d8_12) (pc' := 15) rfl (j := 21) rfl (q := 5) rfl ?_
    intro T B
    refine W_iloadN B (hb hby d8_15) (pc' := 16) rfl rfl ?_
    refine W_aloadN B (hb hby d8_16) (pc' := 17) rfl rfl rfl ?_
    refine W_getfield B hown (host := "") (Or.inl (ow hw (i := 79) rfl)) Via.refl (hb hby d8_17) (pc' := 20) rfl (j := 21) rfl (q := 2) rfl ?_
    intro T B
    refine W_arraylength B (hb hby d8_20) (pc' := 21) rfl (j := 24) rfl (z := (2 : Int32)) rfl ?_
    refine W_imul B (hb hby d8_21) (pc' := 22) rfl (z := (2 : Int32)) (by decide) ?_
    refine W_iloadN B (hb hby d8_22) (pc' := 23) rfl rfl ?_
    refine W_iadd B (hb hby d8_23) (pc' := 24) rfl (z := (3 : Int32)) (by decide) ?_
    refine W_iaload B (hb hby d8_24) (pc' := 25) rfl (i := 23) rfl (by decide) (v := (.int x3)) rfl ?_
    refine W_aloadN B (hb hby d8_25) (pc' := 26) rfl rfl rfl ?_
    refine W_iloadN B (hb hby d8_26) (pc' := 27) rfl rfl ?_
    refine W_iaload B (hb hby d8_27) (pc' := 28) rfl (i := 22) rfl (by decide) (v := (.int w1)) rfl ?_
    refine W_icmp_eq B (hb hby d8_28) (by decide) (pt := 33) (by decide) (pc' := 31) rfl (fun (c31 : x3 = w1) => ?_) (fun (c31 : ¬ x3 = w1) => ?_)
    · refine W_iinc B (hb hby d8_33) (pc' := 36) rfl rfl (z := (2 : Int32)) (by decide) (ls' := #[.val (.ref a1), .val (.int (1 : Int32)), .val (.ref q1), .val (.int (2 : Int32))]) rfl ?_
      refine W_goto B (hb hby d8_36) (by decide) (pc' := 2) (by decide) ?_
      refine W_iloadN B (hb hby d8_2) (pc' := 3) rfl rfl ?_
      refine W_aloadN B (hb hby d8_3) (pc' := 4) rfl rfl rfl ?_
      refine W_getfield B hown (host := "") (Or.inl (ow hw (i := 79) rfl)) Via.refl (hb hby d8_4) (pc' := 7) rfl (j := 21) rfl (q := 2) rfl ?_
      intro T B
      refine W_arraylength B (hb hby d8_7) (pc' := 8) rfl (j := 24) rfl (z := (2 : Int32)) rfl ?_
      refine W_icmpY B (hb hby d8_8) (by decide) (pc' := 39) (by decide) (by decide) ?_
      refine W_iconst B (hb hby d8_39) (pc' := 40) rfl (z := (1 : Int32)) (by decide) ?_
      refine W_retN B hret (by simp) (hb hby d8_40) (by decide) ?_
      exact Or.inl ⟨c30, c31, rfl, rfl⟩
    refine W_iconst B (hb hby d8_31) (pc' := 32) rfl (z := (0 : Int32)) (by decide) ?_
    refine W_retN B hret (by simp) (hb hby d8_32) (by decide) ?_
    exact Or.inr (Or.inl ⟨c30, c31, rfl, rfl⟩)
  refine W_iconst B (hb hby d8_31) (pc' := 32) rfl (z := (0 : Int32)) (by decide) ?_
  refine W_retN B hret (by simp) (hb hby d8_32) (by decide) ?_
  exact Or.inr (Or.inr ⟨c30, rfl, rfl⟩)
theorem own_strAtoms {Z : State} {a0 : Array Value} (hw : ∀ d ∈ tables_1, d.before a0 Z = true) : ∀ a ∈ Bundle.stringAtoms, a.before a0 Z = true := by
  intro d hd
  simp only [Bundle.stringAtoms, List.mem_cons, List.not_mem_nil, or_false] at hd
  rcases hd with rfl | rfl | rfl | rfl | rfl | rfl | rfl
  · exact (ow hw (i := 8) rfl)
  · exact (ow hw (i := 9) rfl)
  · exact (ow hw (i := 10) rfl)
  · exact (ow hw (i := 11) rfl)
  · exact (ow hw (i := 12) rfl)
  · exact (ow hw (i := 13) rfl)
  · exact (ow hw (i := 14) rfl)
theorem pd_4 : parseMethodDescriptor "(I[I[I[ILcom/example/tanglemark/tanglemark/datalog/SharedSets;[I[I)V" = some ⟨[.int, (.array .int), (.array .int), (.array .int), (.object "com/example/tanglemark/tanglemark/datalog/SharedSets"), (.array .int), (.array .int)], none⟩ := by decide +kernel
theorem pd_5 : parseMethodDescriptor "(I[I)Z" = some ⟨[.int, (.array .int)], some .boolean⟩ := by decide +kernel
theorem ef_rm0 (m : MethodId) (x0 : Int32) (x1 : Int32) (x2 : Int32) (x3 : Int32) (x4 : Int32) (x5 : Int32) : entryFrame m #[(.int x0), (.int x1), (.int x2), (.int x3), (.int x4), (.int x5)] maxLocals = mkF m 0 #[.val (.int x0), .val (.int x1), .val (.int x2), .val (.int x3), .val (.int x4), .val (.int x5), .unset, .unset, .unset, .unset, .unset, .unset, .unset, .unset, .unset, .unset, .unset, .unset, .unset, .unset, .unset] [] := by first | (simp [entryFrame, mkF, argsToLocals, Value.category, maxLocals]; done) | rfl
theorem pn_4 : plainName "com/example/tanglemark/tanglemark/datalog/FactoredRowsKeyHasPinLaw" = true := by first | (simp [plainName, overriddenIn]; done) | decide +kernel
set_option maxRecDepth 65536 in
set_option maxHeartbeats 40000000 in
theorem rm0 (l : Launch) (Z : State) (a0 : Array Value) (hw : ∀ d ∈ tables_1, d.before a0 Z = true) (h0 : Heap) {lo : Nat} (a1 : Int32) (a2 : Int32) (a3 : Int32) (a4 : Int32) (a5 : Int32) (a6 : Int32) :
    oMetW l Z h0 lo x code maxLocals ret tables_1 room_1 #[(.int a1), (.int a2), (.int a3), (.int a4), (.int a5), (.int a6)] [] (fun (v : Option Value) (_ : oDs) => v = some (.int 1)) := by
  refine oMetW.of_body (plainFor_of_name pn_4) ?_
  intro p e s m below meth c T vm_ B hS hby hml hown hnm hret
  refine W_entry (ef_rm0 m a1 a2 a3 a4 a5 a6) ?_
  have hml : c.maxLocals = 21 := hml
  refine W_iload B (hb hby at_0) (pc' := 2) rfl rfl ?_
  refine W_iconst B (hb hby at_2) (pc' := 3) rfl (z := (1 : Int32)) (by decide) ?_
  refine W_iand B (hb hby at_3) (pc' := 4) rfl (z := (a6 &&& (1 : Int32))) rfl ?_
  obtain ⟨v32, hv32⟩ : ∃ z : Int32, z = (a6 &&& (1 : Int32)) := ⟨_, rfl⟩
  refine W_istore B (hb hby at_4) (pc' := 6) rfl (v := v32) hv32.symm (ls' := #[.val (.int a1), .val (.int a2), .val (.int a3), .val (.int a4), .val (.int a5), .val (.int a6), .val (.int v32), .unset, .unset, .unset, .unset, .unset, .unset, .unset, .unset, .unset, .unset, .unset, .unset, .unset, .unset]) rfl ?_
  rcases own_c2 hv32 with rfl | rfl
  · refine W_iload B (hb hby at_6) (pc' := 8) rfl rfl ?_
    refine W_iconst B (hb hby at_8) (pc' := 9) rfl (z := (1 : Int32)) (by decide) ?_
    refine W_iushr B (hb hby at_9) (pc' := 10) rfl (z := ((a6.toUInt32 >>> ((1 : Int32) &&& 31).toUInt32).toInt32)) rfl ?_
    refine W_iconst B (hb hby at_10) (pc' := 11) rfl (z := (3 : Int32)) (by decide) ?_
    refine W_iand B (hb hby at_11) (pc' := 12) rfl (z := (((a6.toUInt32 >>> ((1 : Int32) &&& 31).toUInt32).toInt32) &&& (3 : Int32))) rfl ?_
    refine W_iconst B (hb hby at_12) (pc' := 13) rfl (z := (3 : Int32)) (by decide) ?_
    refine W_irem B (hb hby at_13) (pc' := 14) rfl (by decide) (z := ((((a6.toUInt32 >>> ((1 : Int32) &&& 31).toUInt32).toInt32) &&& (3 : Int32)) % (3 : Int32))) rfl ?_
    obtain ⟨v33, hv33⟩ : ∃ z : Int32, z = ((((a6.toUInt32 >>> ((1 : Int32) &&& 31).toUInt32).toInt32) &&& (3 : Int32)) % (3 : Int32)) := ⟨_, rfl⟩
    refine W_istore B (hb hby at_14) (pc' := 16) rfl (v := v33) hv33.symm (ls' := #[.val (.int a1), .val (.int a2), .val (.int a3), .val (.int a4), .val (.int a5), .val (.int a6), .val (.int (0 : Int32)), .val (.int v33), .unset, .unset, .unset, .unset, .unset, .unset, .unset, .unset, .unset, .unset, .unset, .unset, .unset]) rfl ?_
    rcases own_c3 hv33 with rfl | rfl | rfl
    · refine oJoin B (fun z34 : Int32 => True) (fun z34 => (mkF m 30 #[.val (.int a1), .val (.int a2), .val (.int a3), .val (.int a4), .val (.int a5), .val (.int a6), .val (.int (0 : Int32)), .val (.int (0 : Int32)), .unset, .unset, .unset, .unset, .unset, .unset, .unset, .unset, .unset, .unset, .unset, .unset, .unset] [(.int z34)])) ?_ ?_
      · intro kJ
        refine W_iload B (hb hby at_16) (pc' := 18) rfl rfl ?_
        refine W_iconst B (hb hby at_18) (pc' := 19) rfl (z := (3 : Int32)) (by decide) ?_
        refine W_iushr B (hb hby at_19) (pc' := 20) rfl (z := ((a6.toUInt32 >>> ((3 : Int32) &&& 31).toUInt32).toInt32)) rfl ?_
        refine W_iconst B (hb hby at_20) (pc' := 21) rfl (z := (1 : Int32)) (by decide) ?_
        refine W_iand B (hb hby at_21) (pc' := 22) rfl (z := (((a6.toUInt32 >>> ((3 : Int32) &&& 31).toUInt32).toInt32) &&& (1 : Int32))) rfl ?_
        refine W_if_eq B (hb hby at_22) (by decide) (pt := 29) (by decide) (pc' := 25) rfl (fun (c35 : (((a6.toUInt32 >>> ((3 : Int32) &&& 31).toUInt32).toInt32) &&& (1 : Int32)) = (0 : Int32)) => ?_) (fun (c35 : ¬ (((a6.toUInt32 >>> ((3 : Int32) &&& 31).toUInt32).toInt32) &&& (1 : Int32)) = (0 : Int32)) => ?_)
        · refine W_iconst B (hb hby at_29) (pc' := 30) rfl (z := (0 : Int32)) (by decide) ?_
          exact kJ _ _ (trivial) B
        refine W_iconst B (hb hby at_25) (pc' := 26) rfl (z := (1 : Int32)) (by decide) ?_
        refine W_goto B (hb hby at_26) (by decide) (pc' := 30) (by decide) ?_
        exact kJ _ _ (trivial) B
      intro z34 T hz34 B
      refine W_istore B (hb hby at_30) (pc' := 32) rfl (v := z34) rfl (ls' := #[.val (.int a1), .val (.int a2), .val (.int a3), .val (.int a4), .val (.int a5), .val (.int a6), .val (.int (0 : Int32)), .val (.int (0 : Int32)), .val (.int z34), .unset, .unset, .unset, .unset, .unset, .unset, .unset, .unset, .unset, .unset, .unset, .unset]) rfl ?_
      refine oJoin B (fun z36 : Int32 => True) (fun z36 => (mkF m 46 #[.val (.int a1), .val (.int a2), .val (.int a3), .val (.int a4), .val (.int a5), .val (.int a6), .val (.int (0 : Int32)), .val (.int (0 : Int32)), .val (.int z34), .unset, .unset, .unset, .unset, .unset, .unset, .unset, .unset, .unset, .unset, .unset, .unset] [(.int z36)])) ?_ ?_
      · intro kJ
        refine W_iload B (hb hby at_32) (pc' := 34) rfl rfl ?_
        refine W_iconst B (hb hby at_34) (pc' := 35) rfl (z := (4 : Int32)) (by decide) ?_
        refine W_iushr B (hb hby at_35) (pc' := 36) rfl (z := ((a6.toUInt32 >>> ((4 : Int32) &&& 31).toUInt32).toInt32)) rfl ?_
        refine W_iconst B (hb hby at_36) (pc' := 37) rfl (z := (1 : Int32)) (by decide) ?_
        refine W_iand B (hb hby at_37) (pc' := 38) rfl (z := (((a6.toUInt32 >>> ((4 : Int32) &&& 31).toUInt32).toInt32) &&& (1 : Int32))) rfl ?_
        refine W_if_eq B (hb hby at_38) (by decide) (pt := 45) (by decide) (pc' := 41) rfl (fun (c37 : (((a6.toUInt32 >>> ((4 : Int32) &&& 31).toUInt32).toInt32) &&& (1 : Int32)) = (0 : Int32)) => ?_) (fun (c37 : ¬ (((a6.toUInt32 >>> ((4 : Int32) &&& 31).toUInt32).toInt32) &&& (1 : Int32)) = (0 : Int32)) => ?_)
        · refine W_iconst B (hb hby at_45) (pc' := 46) rfl (z := (0 : Int32)) (by decide) ?_
          exact kJ _ _ (trivial) B
        refine W_iconst B (hb hby at_41) (pc' := 42) rfl (z := (1 : Int32)) (by decide) ?_
        refine W_goto B (hb hby at_42) (by decide) (pc' := 46) (by decide) ?_
        exact kJ _ _ (trivial) B
      intro z36 T hz36 B
      refine W_istore B (hb hby at_46) (pc' := 48) rfl (v := z36) rfl (ls' := #[.val (.int a1), .val (.int a2), .val (.int a3), .val (.int a4), .val (.int a5), .val (.int a6), .val (.int (0 : Int32)), .val (.int (0 : Int32)), .val (.int z34), .val (.int z36), .unset, .unset, .unset, .unset, .unset, .unset, .unset, .unset, .unset, .unset, .unset]) rfl ?_
      refine W_iload B (hb hby at_48) (pc' := 50) rfl rfl ?_
      refine W_ifN B (hb hby at_50) (pc' := 53) rfl (by decide) ?_
      refine W_iconst B (hb hby at_53) (pc' := 54) rfl (z := (0 : Int32)) (by decide) ?_
      refine W_newarray B (ow hw (i := 0) rfl) (hb hby at_54) (pc' := 56) rfl (by decide) (cap := 0) (by decide) (by decide) (cells' := 1) rfl (slots' := 0) rfl (vs := []) rfl (ty := .int) rfl ?_
      intro T b38 B
      refine W_astore B (hb hby at_56) (pc' := 58) rfl rfl (ls' := #[.val (.int a1), .val (.int a2), .val (.int a3), .val (.int a4), .val (.int a5), .val (.int a6), .val (.int (0 : Int32)), .val (.int (0 : Int32)), .val (.int z34), .val (.int z36), .val (.ref b38), .unset, .unset, .unset, .unset, .unset, .unset, .unset, .unset, .unset, .unset]) rfl ?_
      refine W_goto B (hb hby at_58) (by decide) (pc' := 92) (by decide) ?_
      refine W_iconst B (hb hby at_92) (pc' := 93) rfl (z := (4 : Int32)) (by decide) ?_
      refine W_newarray B (ow hw (i := 0) rfl) (hb hby at_93) (pc' := 95) rfl (by decide) (cap := 4) (by decide) (by decide) (cells' := 2) rfl (slots' := 4) rfl (vs := [(.int (0 : Int32)), (.int (0 : Int32)), (.int (0 : Int32)), (.int (0 : Int32))]) rfl (ty := .int) rfl ?_
      intro T b39 B
      refine W_dup B (hb hby at_95) (pc' := 96) rfl rfl ?_
      refine W_iconst B (hb hby at_96) (pc' := 97) rfl (z := (0 : Int32)) (by decide) ?_
      refine W_iloadN B (hb hby at_97) (pc' := 98) rfl rfl ?_
      refine W_iastore B (hb hby at_98) (pc' := 99) rfl (i := 0) rfl (by decide) (oLt rfl) (ds' := [(b39, oA .int [(.int a1), o0, o0, o0]), (b38, oA .int [])]) rfl ?_
      intro T B
      refine W_dup B (hb hby at_99) (pc' := 100) rfl rfl ?_
      refine W_iconst B (hb hby at_100) (pc' := 101) rfl (z := (1 : Int32)) (by decide) ?_
      refine W_iloadN B (hb hby at_101) (pc' := 102) rfl rfl ?_
      refine W_iastore B (hb hby at_102) (pc' := 103) rfl (i := 0) rfl (by decide) (oLt rfl) (ds' := [(b39, oA .int [(.int a1), (.int a2), o0, o0]), (b38, oA .int [])]) rfl ?_
      intro T B
      refine W_dup B (hb hby at_103) (pc' := 104) rfl rfl ?_
      refine W_iconst B (hb hby at_104) (pc' := 105) rfl (z := (2 : Int32)) (by decide) ?_
      refine W_iloadN B (hb hby at_105) (pc' := 106) rfl rfl ?_
      refine W_iastore B (hb hby at_106) (pc' := 107) rfl (i := 0) rfl (by decide) (oLt rfl) (ds' := [(b39, oA .int [(.int a1), (.int a2), (.int a3), o0]), (b38, oA .int [])]) rfl ?_
      intro T B
      refine W_dup B (hb hby at_107) (pc' := 108) rfl rfl ?_
      refine W_iconst B (hb hby at_108) (pc' := 109) rfl (z := (3 : Int32)) (by decide) ?_
      refine W_iloadN B (hb hby at_109) (pc' := 110) rfl rfl ?_
      refine W_iastore B (hb hby at_110) (pc' := 111) rfl (i := 0) rfl (by decide) (oLt rfl) (ds' := [(b39, oA .int [(.int a1), (.int a2), (.int a3), (.int a4)]), (b38, oA .int [])]) rfl ?_
      intro T B
      refine W_astore B (hb hby at_111) (pc' := 113) rfl rfl (ls' := #[.val (.int a1), .val (.int a2), .val (.int a3), .val (.int a4), .val (.int a5), .val (.int a6), .val (.int (0 : Int32)), .val (.int (0 : Int32)), .val (.int z34), .val (.int z36), .val (.ref b38), .val (.ref b39), .unset, .unset, .unset, .unset, .unset, .unset, .unset, .unset, .unset]) rfl ?_
      refine W_iload B (hb hby at_113) (pc' := 115) rfl rfl ?_
      refine W_iload B (hb hby at_115) (pc' := 117) rfl rfl ?_
      refine W_imul B (hb hby at_117) (pc' := 118) rfl (z := (0 : Int32)) (by decide) ?_
      refine W_istore B (hb hby at_118) (pc' := 120) rfl (v := (0 : Int32)) rfl (ls' := #[.val (.int a1), .val (.int a2), .val (.int a3), .val (.int a4), .val (.int a5), .val (.int a6), .val (.int (0 : Int32)), .val (.int (0 : Int32)), .val (.int z34), .val (.int z36), .val (.ref b38), .val (.ref b39), .val (.int (0 : Int32)), .unset, .unset, .unset, .unset, .unset, .unset, .unset, .unset]) rfl ?_
      refine W_iload B (hb hby at_120) (pc' := 122) rfl rfl ?_
      refine W_iconst B (hb hby at_122) (pc' := 123) rfl (z := (1 : Int32)) (by decide) ?_
      refine W_icmpY B (hb hby at_123) (by decide) (pc' := 134) (by decide) (by decide) ?_
      refine W_iconst B (hb hby at_134) (pc' := 135) rfl (z := (0 : Int32)) (by decide) ?_
      refine W_istore B (hb hby at_135) (pc' := 137) rfl (v := (0 : Int32)) rfl (ls' := #[.val (.int a1), .val (.int a2), .val (.int a3), .val (.int a4), .val (.int a5), .val (.int a6), .val (.int (0 : Int32)), .val (.int (0 : Int32)), .val (.int z34), .val (.int z36), .val (.ref b38), .val (.ref b39), .val (.int (0 : Int32)), .val (.int (0 : Int32)), .unset, .unset, .unset, .unset, .unset, .unset, .unset]) rfl ?_
      refine W_iload B (hb hby at_137) (pc' := 139) rfl rfl ?_
      refine W_iconst B (hb hby at_139) (pc' := 140) rfl (z := (2 : Int32)) (by decide) ?_
      refine W_icmpY B (hb hby at_140) (by decide) (pc' := 153) (by decide) (by decide) ?_
      refine W_iconst B (hb hby at_153) (pc' := 154) rfl (z := (0 : Int32)) (by decide) ?_
      refine W_istore B (hb hby at_154) (pc' := 156) rfl (v := (0 : Int32)) rfl (ls' := #[.val (.int a1), .val (.int a2), .val (.int a3), .val (.int a4), .val (.int a5), .val (.int a6), .val (.int (0 : Int32)), .val (.int (0 : Int32)), .val (.int z34), .val (.int z36), .val (.ref b38), .val (.ref b39), .val (.int (0 : Int32)), .val (.int (0 : Int32)), .val (.int (0 : Int32)), .unset, .unset, .unset, .unset, .unset, .unset]) rfl ?_
      refine oJoin B (fun z40 : Int32 => True) (fun z40 => (mkF m 168 #[.val (.int a1), .val (.int a2), .val (.int a3), .val (.int a4), .val (.int a5), .val (.int a6), .val (.int (0 : Int32)), .val (.int (0 : Int32)), .val (.int z34), .val (.int z36), .val (.ref b38), .val (.ref b39), .val (.int (0 : Int32)), .val (.int (0 : Int32)), .val (.int (0 : Int32)), .unset, .unset, .unset, .unset, .unset, .unset] [(.int z40)])) ?_ ?_
      · intro kJ
        refine W_iload B (hb hby at_156) (pc' := 158) rfl rfl ?_
        refine W_if_eq B (hb hby at_158) (by decide) (pt := 166) (by decide) (pc' := 161) rfl (fun (c41 : z34 = (0 : Int32)) => ?_) (fun (c41 : ¬ z34 = (0 : Int32)) => ?_)
        · refine W_iload B (hb hby at_166) (pc' := 168) rfl rfl ?_
          exact kJ _ _ (trivial) B
        refine W_iload B (hb hby at_161) (pc' := 163) rfl rfl ?_
        refine W_goto B (hb hby at_163) (by decide) (pc' := 168) (by decide) ?_
        exact kJ _ _ (trivial) B
      intro z40 T hz40 B
      refine W_istore B (hb hby at_168) (pc' := 170) rfl (v := z40) rfl (ls' := #[.val (.int a1), .val (.int a2), .val (.int a3), .val (.int a4), .val (.int a5), .val (.int a6), .val (.int (0 : Int32)), .val (.int (0 : Int32)), .val (.int z34), .val (.int z36), .val (.ref b38), .val (.ref b39), .val (.int (0 : Int32)), .val (.int (0 : Int32)), .val (.int (0 : Int32)), .val (.int z40), .unset, .unset, .unset, .unset, .unset]) rfl ?_
      refine oJoin B (fun z42 : Int32 => True) (fun z42 => (mkF m 187 #[.val (.int a1), .val (.int a2), .val (.int a3), .val (.int a4), .val (.int a5), .val (.int a6), .val (.int (0 : Int32)), .val (.int (0 : Int32)), .val (.int z34), .val (.int z36), .val (.ref b38), .val (.ref b39), .val (.int (0 : Int32)), .val (.int (0 : Int32)), .val (.int (0 : Int32)), .val (.int z40), .unset, .unset, .unset, .unset, .unset] [(.int z42)])) ?_ ?_
      · intro kJ
        refine W_iload B (hb hby at_170) (pc' := 172) rfl rfl ?_
        refine W_if_eq B (hb hby at_172) (by decide) (pt := 180) (by decide) (pc' := 175) rfl (fun (c43 : z36 = (0 : Int32)) => ?_) (fun (c43 : ¬ z36 = (0 : Int32)) => ?_)
        · refine W_iload B (hb hby at_180) (pc' := 182) rfl rfl ?_
          refine W_iload B (hb hby at_182) (pc' := 184) rfl rfl ?_
          refine W_iconst B (hb hby at_184) (pc' := 185) rfl (z := (5 : Int32)) (by decide) ?_
          refine W_ishr B (hb hby at_185) (pc' := 186) rfl (z := (a6 >>> ((5 : Int32) &&& 31))) rfl ?_
          refine W_ixor B (hb hby at_186) (pc' := 187) rfl (z := (a5 ^^^ (a6 >>> ((5 : Int32) &&& 31)))) rfl ?_
          exact kJ _ _ (trivial) B
        refine W_iload B (hb hby at_175) (pc' := 177) rfl rfl ?_
        refine W_goto B (hb hby at_177) (by decide) (pc' := 187) (by decide) ?_
        exact kJ _ _ (trivial) B
      intro z42 T hz42 B
      refine W_istore B (hb hby at_187) (pc' := 189) rfl (v := z42) rfl (ls' := #[.val (.int a1), .val (.int a2), .val (.int a3), .val (.int a4), .val (.int a5), .val (.int a6), .val (.int (0 : Int32)), .val (.int (0 : Int32)), .val (.int z34), .val (.int z36), .val (.ref b38), .val (.ref b39), .val (.int (0 : Int32)), .val (.int (0 : Int32)), .val (.int (0 : Int32)), .val (.int z40), .val (.int z42), .unset, .unset, .unset, .unset]) rfl ?_
      refine W_iconst B (hb hby at_189) (pc' := 190) rfl (z := (2 : Int32)) (by decide) ?_
      refine W_newarray B (ow hw (i := 0) rfl) (hb hby at_190) (pc' := 192) rfl (by decide) (cap := 2) (by decide) (by decide) (cells' := 3) rfl (slots' := 6) rfl (vs := [(.int (0 : Int32)), (.int (0 : Int32))]) rfl (ty := .int) rfl ?_
      intro T b44 B
      refine W_dup B (hb hby at_192) (pc' := 193) rfl rfl ?_
      refine W_iconst B (hb hby at_193) (pc' := 194) rfl (z := (0 : Int32)) (by decide) ?_
      refine W_iload B (hb hby at_194) (pc' := 196) rfl rfl ?_
      refine W_iastore B (hb hby at_196) (pc' := 197) rfl (i := 0) rfl (by decide) (oLt rfl) (ds' := [(b44, oA .int [(.int z40), o0]), (b39, oA .int [(.int a1), (.int a2), (.int a3), (.int a4)]), (b38, oA .int [])]) rfl ?_
      intro T B
      refine W_dup B (hb hby at_197) (pc' := 198) rfl rfl ?_
      refine W_iconst B (hb hby at_198) (pc' := 199) rfl (z := (1 : Int32)) (by decide) ?_
      refine W_iload B (hb hby at_199) (pc' := 201) rfl rfl ?_
      refine W_iastore B (hb hby at_201) (pc' := 202) rfl (i := 0) rfl (by decide) (oLt rfl) (ds' := [(b44, oA .int [(.int z40), (.int z42)]), (b39, oA .int [(.int a1), (.int a2), (.int a3), (.int a4)]), (b38, oA .int [])]) rfl ?_
      intro T B
      refine W_astore B (hb hby at_202) (pc' := 204) rfl rfl (ls' := #[.val (.int a1), .val (.int a2), .val (.int a3), .val (.int a4), .val (.int a5), .val (.int a6), .val (.int (0 : Int32)), .val (.int (0 : Int32)), .val (.int z34), .val (.int z36), .val (.ref b38), .val (.ref b39), .val (.int (0 : Int32)), .val (.int (0 : Int32)), .val (.int (0 : Int32)), .val (.int z40), .val (.int z42), .val (.ref b44), .unset, .unset, .unset]) rfl ?_
      refine W_new B hown (ow hw (i := 1) rfl) (ow hw (i := 2) rfl) (ow hw (i := 3) rfl) (hb hby at_204) (pc' := 207) rfl (by decide) (cells' := 4) rfl (slots' := 17) rfl (fs := [(fk14, .null), (fk15, (.int (0 : Int32))), (fk16, .null), (fk17, .null), (fk18, (.int (0 : Int32))), (fk19, .null), (fk20, .null), (fk21, .null), (fk22, .null), (fk23, .null), (fk24, .null)]) (oAll_cons ⟨Or.inl (ow hw (i := 76) rfl), (.object "com/example/tanglemark/tanglemark/datalog/FactoredRows$Stretch"), by decide, rfl⟩ (oAll_cons ⟨Or.inr (ow hw (i := 78) rfl), .int, by decide, rfl⟩ (oAll_cons ⟨Or.inr (ow hw (i := 80) rfl), (.array .int), by decide, rfl⟩ (oAll_cons ⟨Or.inr (ow hw (i := 82) rfl), (.array .int), by decide, rfl⟩ (oAll_cons ⟨Or.inr (ow hw (i := 84) rfl), .int, by decide, rfl⟩ (oAll_cons ⟨Or.inr (ow hw (i := 86) rfl), (.array .int), by decide, rfl⟩ (oAll_cons ⟨Or.inr (ow hw (i := 88) rfl), (.array .int), by decide, rfl⟩ (oAll_cons ⟨Or.inr (ow hw (i := 90) rfl), (.object "com/example/tanglemark/tanglemark/datalog/SharedSets"), by decide, rfl⟩ (oAll_cons ⟨Or.inr (ow hw (i := 92) rfl), (.array .int), by decide, rfl⟩ (oAll_cons ⟨Or.inr (ow hw (i := 94) rfl), (.array .int), by decide, rfl⟩ (oAll_cons ⟨Or.inr (ow hw (i := 97) rfl), (.array .int), by decide, rfl⟩ oAll_nil))))))))))) (by decide) ?_
      intro T b45 B
      refine W_dup B (hb hby at_207) (pc' := 208) rfl rfl ?_
      refine W_iconst B (hb hby at_208) (pc' := 209) rfl (z := (3 : Int32)) (by decide) ?_
      refine W_aload B (hb hby at_209) (pc' := 211) rfl rfl rfl ?_
      refine W_aload B (hb hby at_211) (pc' := 213) rfl rfl rfl ?_
      refine W_bipush B (hb hby at_213) (pc' := 215) rfl (z := (6 : Int32)) (by decide) ?_
      refine W_newarray B (ow hw (i := 0) rfl) (hb hby at_215) (pc' := 217) rfl (by decide) (cap := 6) (by decide) (by decide) (cells' := 5) rfl (slots' := 23) rfl (vs := [(.int (0 : Int32)), (.int (0 : Int32)), (.int (0 : Int32)), (.int (0 : Int32)), (.int (0 : Int32)), (.int (0 : Int32))]) rfl (ty := .int) rfl ?_
      intro T b46 B
      refine W_new B hown (ow hw (i := 4) rfl) (ow hw (i := 5) rfl) (ow hw (i := 6) rfl) (hb hby at_217) (pc' := 220) rfl (by decide) (cells' := 6) rfl (slots' := 30) rfl (fs := [(fk3, .null), (fk4, .null), (fk5, .null), (fk6, .null), (fk7, .null), (fk8, .null), (fk9, .null)]) (oAll_cons ⟨Or.inr (ow hw (i := 43) rfl), (.object "com/example/tanglemark/tanglemark/datalog/Ints"), by decide, rfl⟩ (oAll_cons ⟨Or.inr (ow hw (i := 45) rfl), (.object "com/example/tanglemark/tanglemark/datalog/Ints"), by decide, rfl⟩ (oAll_cons ⟨Or.inr (ow hw (i := 47) rfl), (.object "com/example/tanglemark/tanglemark/datalog/Ints"), by decide, rfl⟩ (oAll_cons ⟨Or.inr (ow hw (i := 49) rfl), (.object "com/example/tanglemark/tanglemark/datalog/Ints"), by decide, rfl⟩ (oAll_cons ⟨Or.inr (ow hw (i := 51) rfl), (.object "com/example/tanglemark/tanglemark/datalog/Ints"), by decide, rfl⟩ (oAll_cons ⟨Or.inr (ow hw (i := 53) rfl), (.object "com/example/tanglemark/tanglemark/datalog/Ints"), by decide, rfl⟩ (oAll_cons ⟨Or.inr (ow hw (i := 55) rfl), (.object "com/example/tanglemark/tanglemark/datalog/Ints"), by decide, rfl⟩ oAll_nil))))))) (by decide) ?_
      intro T b47 B
      refine W_dup B (hb hby at_220) (pc' := 221) rfl rfl ?_
      refine W_ldcStr B hS (n := 4) hown (ow hw (i := 7) rfl) (own_strAtoms hw) (hb hby at_221) (pc' := 223) rfl (by decide) (by decide) (cells' := 8) rfl (slots' := 38) rfl ?_
      intro T sa48 vm_ lo B hS hown
      refine W_init B (y := (⟨"com/example/tanglemark/tanglemark/datalog/SharedSets", "<init>", "(Ljava/lang/String;)V"⟩ : MethodName)) hown rfl (ow hw (i := 15) rfl) (ow hw (i := 16) rfl) (ow hw (i := 6) rfl) (ow hw (i := 17) rfl) (by decide) (a := b47) (rm_sets l Z a0 hw h0 b47 sa48 [(b46, oA .int [o0, o0, o0, o0, o0, o0]), (b45, oO cn3 [(fk14, .null), (fk15, (.int (0 : Int32))), (fk16, .null), (fk17, .null), (fk18, (.int (0 : Int32))), (fk19, .null), (fk20, .null), (fk21, .null), (fk22, .null), (fk23, .null), (fk24, .null)]), (b44, oA .int [(.int z40), (.int z42)]), (b39, oA .int [(.int a1), (.int a2), (.int a3), (.int a4)]), (b38, oA .int [])]) (lenOf pd_2 rfl) (hb hby at_223) (pc' := 226) rfl (argsL := [(.ref sa48)]) (rest := [(.ref b47), (.ref b46), (.ref b39), (.ref b38), (.int (3 : Int32)), (.ref b45), (.ref b45)]) rfl (by rw [hml]; rfl) (W := 7) (oLe rfl) (by decide) (cells' := 22) rfl (slots' := 178) rfl ?_
      intro T v_ d_ q_ B
      obtain ⟨e49, e50, e51, e52, e53, e54, e55, e56, e57, e58, e59, e60, e61, e62, e63, rfl, rfl⟩ := q_
      show oWin p e below Z h0 _ _ (T.setTop (mkF m 226 #[.val (.int a1), .val (.int a2), .val (.int a3), .val (.int a4), .val (.int a5), .val (.int a6), .val (.int (0 : Int32)), .val (.int (0 : Int32)), .val (.int z34), .val (.int z36), .val (.ref b38), .val (.ref b39), .val (.int (0 : Int32)), .val (.int (0 : Int32)), .val (.int (0 : Int32)), .val (.int z40), .val (.int z42), .val (.ref b44), .unset, .unset, .unset] [(.ref b47), (.ref b46), (.ref b39), (.ref b38), (.int (3 : Int32)), (.ref b45), (.ref b45)]))
      refine W_iconst B (hb hby at_226) (pc' := 227) rfl (z := (2 : Int32)) (by decide) ?_
      refine W_newarray B (ow hw (i := 0) rfl) (hb hby at_227) (pc' := 229) rfl (by decide) (cap := 2) (by decide) (by decide) (cells' := 23) rfl (slots' := 180) rfl (vs := [(.int (0 : Int32)), (.int (0 : Int32))]) rfl (ty := .int) rfl ?_
      intro T b64 B
      refine W_dup B (hb hby at_229) (pc' := 230) rfl rfl ?_
      refine W_iconst B (hb hby at_230) (pc' := 231) rfl (z := (0 : Int32)) (by decide) ?_
      refine W_iconst B (hb hby at_231) (pc' := 232) rfl (z := (0 : Int32)) (by decide) ?_
      refine W_iastore B (hb hby at_232) (pc' := 233) rfl (i := 0) rfl (by decide) (oLt rfl) (ds' := [(b64, oA .int [o0, o0]), e49, e50, e51, e52, e53, e54, e55, e56, e57, e58, e59, e60, e61, e62, e63, (b46, oA .int [o0, o0, o0, o0, o0, o0]), (b45, oO cn3 [(fk14, .null), (fk15, (.int (0 : Int32))), (fk16, .null), (fk17, .null), (fk18, (.int (0 : Int32))), (fk19, .null), (fk20, .null), (fk21, .null), (fk22, .null), (fk23, .null), (fk24, .null)]), (b44, oA .int [(.int z40), (.int z42)]), (b39, oA .int [(.int a1), (.int a2), (.int a3), (.int a4)]), (b38, oA .int [])]) rfl ?_
      intro T B
      refine W_dup B (hb hby at_233) (pc' := 234) rfl rfl ?_
      refine W_iconst B (hb hby at_234) (pc' := 235) rfl (z := (1 : Int32)) (by decide) ?_
      refine W_iconst B (hb hby at_235) (pc' := 236) rfl (z := (0 : Int32)) (by decide) ?_
      refine W_iastore B (hb hby at_236) (pc' := 237) rfl (i := 0) rfl (by decide) (oLt rfl) (ds' := [(b64, oA .int [o0, o0]), e49, e50, e51, e52, e53, e54, e55, e56, e57, e58, e59, e60, e61, e62, e63, (b46, oA .int [o0, o0, o0, o0, o0, o0]), (b45, oO cn3 [(fk14, .null), (fk15, (.int (0 : Int32))), (fk16, .null), (fk17, .null), (fk18, (.int (0 : Int32))), (fk19, .null), (fk20, .null), (fk21, .null), (fk22, .null), (fk23, .null), (fk24, .null)]), (b44, oA .int [(.int z40), (.int z42)]), (b39, oA .int [(.int a1), (.int a2), (.int a3), (.int a4)]), (b38, oA .int [])]) rfl ?_
      intro T B
      refine W_iconst B (hb hby at_237) (pc' := 238) rfl (z := (3 : Int32)) (by decide) ?_
      refine W_newarray B (ow hw (i := 0) rfl) (hb hby at_238) (pc' := 240) rfl (by decide) (cap := 3) (by decide) (by decide) (cells' := 24) rfl (slots' := 183) rfl (vs := [(.int (0 : Int32)), (.int (0 : Int32)), (.int (0 : Int32))]) rfl (ty := .int) rfl ?_
      intro T b65 B
      refine W_dup B (hb hby at_240) (pc' := 241) rfl rfl ?_
      refine W_iconst B (hb hby at_241) (pc' := 242) rfl (z := (0 : Int32)) (by decide) ?_
      refine W_iconst B (hb hby at_242) (pc' := 243) rfl (z := (0 : Int32)) (by decide) ?_
      refine W_iastore B (hb hby at_243) (pc' := 244) rfl (i := 0) rfl (by decide) (oLt rfl) (ds' := [(b65, oA .int [o0, o0, o0]), (b64, oA .int [o0, o0]), e49, e50, e51, e52, e53, e54, e55, e56, e57, e58, e59, e60, e61, e62, e63, (b46, oA .int [o0, o0, o0, o0, o0, o0]), (b45, oO cn3 [(fk14, .null), (fk15, (.int (0 : Int32))), (fk16, .null), (fk17, .null), (fk18, (.int (0 : Int32))), (fk19, .null), (fk20, .null), (fk21, .null), (fk22, .null), (fk23, .null), (fk24, .null)]), (b44, oA .int [(.int z40), (.int z42)]), (b39, oA .int [(.int a1), (.int a2), (.int a3), (.int a4)]), (b38, oA .int [])]) rfl ?_
      intro T B
      refine W_dup B (hb hby at_244) (pc' := 245) rfl rfl ?_
      refine W_iconst B (hb hby at_245) (pc' := 246) rfl (z := (1 : Int32)) (by decide) ?_
      refine W_iconst B (hb hby at_246) (pc' := 247) rfl (z := (1 : Int32)) (by decide) ?_
      refine W_iastore B (hb hby at_247) (pc' := 248) rfl (i := 0) rfl (by decide) (oLt rfl) (ds' := [(b65, oA .int [o0, (.int (1 : Int32)), o0]), (b64, oA .int [o0, o0]), e49, e50, e51, e52, e53, e54, e55, e56, e57, e58, e59, e60, e61, e62, e63, (b46, oA .int [o0, o0, o0, o0, o0, o0]), (b45, oO cn3 [(fk14, .null), (fk15, (.int (0 : Int32))), (fk16, .null), (fk17, .null), (fk18, (.int (0 : Int32))), (fk19, .null), (fk20, .null), (fk21, .null), (fk22, .null), (fk23, .null), (fk24, .null)]), (b44, oA .int [(.int z40), (.int z42)]), (b39, oA .int [(.int a1), (.int a2), (.int a3), (.int a4)]), (b38, oA .int [])]) rfl ?_
      intro T B
      refine W_dup B (hb hby at_248) (pc' := 249) rfl rfl ?_
      refine W_iconst B (hb hby at_249) (pc' := 250) rfl (z := (2 : Int32)) (by decide) ?_
      refine W_iconst B (hb hby at_250) (pc' := 251) rfl (z := (2 : Int32)) (by decide) ?_
      refine W_iastore B (hb hby at_251) (pc' := 252) rfl (i := 0) rfl (by decide) (oLt rfl) (ds' := [(b65, oA .int [o0, (.int (1 : Int32)), (.int (2 : Int32))]), (b64, oA .int [o0, o0]), e49, e50, e51, e52, e53, e54, e55, e56, e57, e58, e59, e60, e61, e62, e63, (b46, oA .int [o0, o0, o0, o0, o0, o0]), (b45, oO cn3 [(fk14, .null), (fk15, (.int (0 : Int32))), (fk16, .null), (fk17, .null), (fk18, (.int (0 : Int32))), (fk19, .null), (fk20, .null), (fk21, .null), (fk22, .null), (fk23, .null), (fk24, .null)]), (b44, oA .int [(.int z40), (.int z42)]), (b39, oA .int [(.int a1), (.int a2), (.int a3), (.int a4)]), (b38, oA .int [])]) rfl ?_
      intro T B
      refine W_init B (y := (⟨"com/example/tanglemark/tanglemark/datalog/FactoredRows", "<init>", "(I[I[I[ILcom/example/tanglemark/tanglemark/datalog/SharedSets;[I[I)V"⟩ : MethodName)) hown rfl (ow hw (i := 56) rfl) (ow hw (i := 57) rfl) (ow hw (i := 3) rfl) (ow hw (i := 58) rfl) (by decide) (a := b45) (rm_fr0 l Z a0 hw h0 b45 b38 b39 b46 b47 b64 b65 e49 e50 e51 e52 e53 e54 e55 e56 e57 e58 e59 e60 e61 e62 e63 (b46, oA .int [o0, o0, o0, o0, o0, o0]) (b44, oA .int [(.int z40), (.int z42)]) (b39, oA .int [(.int a1), (.int a2), (.int a3), (.int a4)]) []) (lenOf pd_4 rfl) (hb hby at_252) (pc' := 255) rfl (argsL := [(.int (3 : Int32)), (.ref b38), (.ref b39), (.ref b46), (.ref b47), (.ref b64), (.ref b65)]) (rest := [(.ref b45)]) rfl (by rw [hml]; rfl) (W := 1) (oLe rfl) (by decide) (cells' := 27) rfl (slots' := 192) rfl ?_
      intro T v_ d_ q_ B
      obtain ⟨b66, b67, b68, rfl, rfl⟩ := q_
      show oWin p e below Z h0 _ _ (T.setTop (mkF m 255 #[.val (.int a1), .val (.int a2), .val (.int a3), .val (.int a4), .val (.int a5), .val (.int a6), .val (.int (0 : Int32)), .val (.int (0 : Int32)), .val (.int z34), .val (.int z36), .val (.ref b38), .val (.ref b39), .val (.int (0 : Int32)), .val (.int (0 : Int32)), .val (.int (0 : Int32)), .val (.int z40), .val (.int z42), .val (.ref b44), .unset, .unset, .unset] [(.ref b45)]))
      refine W_astore B (hb hby at_255) (pc' := 257) rfl rfl (ls' := #[.val (.int a1), .val (.int a2), .val (.int a3), .val (.int a4), .val (.int a5), .val (.int a6), .val (.int (0 : Int32)), .val (.int (0 : Int32)), .val (.int z34), .val (.int z36), .val (.ref b38), .val (.ref b39), .val (.int (0 : Int32)), .val (.int (0 : Int32)), .val (.int (0 : Int32)), .val (.int z40), .val (.int z42), .val (.ref b44), .val (.ref b45), .unset, .unset]) rfl ?_
      refine W_aload B (hb hby at_257) (pc' := 259) rfl rfl rfl ?_
      refine W_iload B (hb hby at_259) (pc' := 261) rfl rfl ?_
      refine W_aload B (hb hby at_261) (pc' := 263) rfl rfl rfl ?_
      refine W_virtual B (y := (⟨"com/example/tanglemark/tanglemark/datalog/FactoredRows", "keyHas", "(I[I)Z"⟩ : MethodName)) (z := (⟨"com/example/tanglemark/tanglemark/datalog/FactoredRows", "keyHas", "(I[I)Z"⟩ : MethodName)) hown (ow hw (i := 98) rfl) (ow hw (i := 99) rfl) (oNotFace B (ow hw (i := 101) rfl) rfl) (ow hw (i := 101) rfl) (ow hw (i := 100) rfl) (ow hw (i := 3) rfl) (ow hw (i := 102) rfl) (by decide) (a := b45) (rm_kh00 l Z a0 hw h0 b45 b44 b38 b39 b46 b47 b64 b65 b66 b67 b68 a1 a2 a3 a4 z40 z42 (b66, oA .int [o0, (.int (1 : Int32))]) (b67, oA .int [(.int (-1 : Int32)), (.int (-2 : Int32)), (.int (-3 : Int32))]) (b68, oO cn2 [(fk10, (.int (0 : Int32))), (fk11, (.int (0 : Int32))), (fk12, (.int (0 : Int32))), (fk13, (.int (0 : Int32)))]) (b65, oA .int [o0, (.int (1 : Int32)), (.int (2 : Int32))]) (b64, oA .int [o0, o0]) e49 e50 e51 e52 e53 e54 e55 e56 e57 e58 e59 e60 e61 e62 e63 (b46, oA .int [o0, o0, o0, o0, o0, o0]) []) (lenOf pd_5 rfl) (hb hby at_263) (pc' := 266) rfl (argsL := [(.int (0 : Int32)), (.ref b44)]) (rest := []) rfl (by rw [hml]; rfl) (W := 0) (oLe rfl) (j := 21) rfl (by decide) (cells' := 27) rfl (slots' := 192) rfl ?_
      intro T v_ d_ q_ B
      obtain ⟨rfl, rfl⟩ := q_
      show oWin p e below Z h0 _ _ (T.setTop (mkF m 266 #[.val (.int a1), .val (.int a2), .val (.int a3), .val (.int a4), .val (.int a5), .val (.int a6), .val (.int (0 : Int32)), .val (.int (0 : Int32)), .val (.int z34), .val (.int z36), .val (.ref b38), .val (.ref b39), .val (.int (0 : Int32)), .val (.int (0 : Int32)), .val (.int (0 : Int32)), .val (.int z40), .val (.int z42), .val (.ref b44), .val (.ref b45), .unset, .unset] [(.int (1 : Int32))]))
      refine W_istore B (hb hby at_266) (pc' := 268) rfl (v := (1 : Int32)) rfl (ls' := #[.val (.int a1), .val (.int a2), .val (.int a3), .val (.int a4), .val (.int a5), .val (.int a6), .val (.int (0 : Int32)), .val (.int (0 : Int32)), .val (.int z34), .val (.int z36), .val (.ref b38), .val (.ref b39), .val (.int (0 : Int32)), .val (.int (0 : Int32)), .val (.int (0 : Int32)), .val (.int z40), .val (.int z42), .val (.ref b44), .val (.ref b45), .val (.int (1 : Int32)), .unset]) rfl ?_
      refine W_iload B (hb hby at_268) (pc' := 270) rfl rfl ?_
      refine W_ifN B (hb hby at_270) (pc' := 273) rfl (by decide) ?_
      refine W_iconst B (hb hby at_273) (pc' := 274) rfl (z := (1 : Int32)) (by decide) ?_
      refine W_istore B (hb hby at_274) (pc' := 276) rfl (v := (1 : Int32)) rfl (ls' := #[.val (.int a1), .val (.int a2), .val (.int a3), .val (.int a4), .val (.int a5), .val (.int a6), .val (.int (0 : Int32)), .val (.int (0 : Int32)), .val (.int z34), .val (.int z36), .val (.ref b38), .val (.ref b39), .val (.int (0 : Int32)), .val (.int (0 : Int32)), .val (.int (0 : Int32)), .val (.int z40), .val (.int z42), .val (.ref b44), .val (.ref b45), .val (.int (1 : Int32)), .val (.int (1 : Int32))]) rfl ?_
      refine W_goto B (hb hby at_276) (by decide) (pc' := 323) (by decide) ?_
      refine W_iload B (hb hby at_323) (pc' := 325) rfl rfl ?_
      refine W_iload B (hb hby at_325) (pc' := 327) rfl rfl ?_
      refine W_icmpN B (hb hby at_327) (pc' := 330) rfl (by decide) ?_
      refine W_iconst B (hb hby at_330) (pc' := 331) rfl (z := (1 : Int32)) (by decide) ?_
      refine W_goto B (hb hby at_331) (by decide) (pc' := 335) (by decide) ?_
      refine W_retNW B hS hret (by simp) (hb hby at_335) (by decide) ?_
      rfl
    · refine oJoin B (fun z69 : Int32 => True) (fun z69 => (mkF m 30 #[.val (.int a1), .val (.int a2), .val (.int a3), .val (.int a4), .val (.int a5), .val (.int a6), .val (.int (0 : Int32)), .val (.int (1 : Int32)), .unset, .unset, .unset, .unset, .unset, .unset, .unset, .unset, .unset, .unset, .unset, .unset, .unset] [(.int z69)])) ?_ ?_
      · intro kJ
        refine W_iload B (hb hby at_16) (pc' := 18) rfl rfl ?_
        refine W_iconst B (hb hby at_18) (pc' := 19) rfl (z := (3 : Int32)) (by decide) ?_
        refine W_iushr B (hb hby at_19) (pc' := 20) rfl (z := ((a6.toUInt32 >>> ((3 : Int32) &&& 31).toUInt32).toInt32)) rfl ?_
        refine W_iconst B (hb hby at_20) (pc' := 21) rfl (z := (1 : Int32)) (by decide) ?_
        refine W_iand B (hb hby at_21) (pc' := 22) rfl (z := (((a6.toUInt32 >>> ((3 : Int32) &&& 31).toUInt32).toInt32) &&& (1 : Int32))) rfl ?_
        refine W_if_eq B (hb hby at_22) (by decide) (pt := 29) (by decide) (pc' := 25) rfl (fun (c70 : (((a6.toUInt32 >>> ((3 : Int32) &&& 31).toUInt32).toInt32) &&& (1 : Int32)) = (0 : Int32)) => ?_) (fun (c70 : ¬ (((a6.toUInt32 >>> ((3 : Int32) &&& 31).toUInt32).toInt32) &&& (1 : Int32)) = (0 : Int32)) => ?_)
        · refine W_iconst B (hb hby at_29) (pc' := 30) rfl (z := (0 : Int32)) (by decide) ?_
          exact kJ _ _ (trivial) B
        refine W_iconst B (hb hby at_25) (pc' := 26) rfl (z := (1 : Int32)) (by decide) ?_
        refine W_goto B (hb hby at_26) (by decide) (pc' := 30) (by decide) ?_
        exact kJ _ _ (trivial) B
      intro z69 T hz69 B
      refine W_istore B (hb hby at_30) (pc' := 32) rfl (v := z69) rfl (ls' := #[.val (.int a1), .val (.int a2), .val (.int a3), .val (.int a4), .val (.int a5), .val (.int a6), .val (.int (0 : Int32)), .val (.int (1 : Int32)), .val (.int z69), .unset, .unset, .unset, .unset, .unset, .unset, .unset, .unset, .unset, .unset, .unset, .unset]) rfl ?_
      refine oJoin B (fun z71 : Int32 => True) (fun z71 => (mkF m 46 #[.val (.int a1), .val (.int a2), .val (.int a3), .val (.int a4), .val (.int a5), .val (.int a6), .val (.int (0 : Int32)), .val (.int (1 : Int32)), .val (.int z69), .unset, .unset, .unset, .unset, .unset, .unset, .unset, .unset, .unset, .unset, .unset, .unset] [(.int z71)])) ?_ ?_
      · intro kJ
        refine W_iload B (hb hby at_32) (pc' := 34) rfl rfl ?_
        refine W_iconst B (hb hby at_34) (pc' := 35) rfl (z := (4 : Int32)) (by decide) ?_
        refine W_iushr B (hb hby at_35) (pc' := 36) rfl (z := ((a6.toUInt32 >>> ((4 : Int32) &&& 31).toUInt32).toInt32)) rfl ?_
        refine W_iconst B (hb hby at_36) (pc' := 37) rfl (z := (1 : Int32)) (by decide) ?_
        refine W_iand B (hb hby at_37) (pc' := 38) rfl (z := (((a6.toUInt32 >>> ((4 : Int32) &&& 31).toUInt32).toInt32) &&& (1 : Int32))) rfl ?_
        refine W_if_eq B (hb hby at_38) (by decide) (pt := 45) (by decide) (pc' := 41) rfl (fun (c72 : (((a6.toUInt32 >>> ((4 : Int32) &&& 31).toUInt32).toInt32) &&& (1 : Int32)) = (0 : Int32)) => ?_) (fun (c72 : ¬ (((a6.toUInt32 >>> ((4 : Int32) &&& 31).toUInt32).toInt32) &&& (1 : Int32)) = (0 : Int32)) => ?_)
        · refine W_iconst B (hb hby at_45) (pc' := 46) rfl (z := (0 : Int32)) (by decide) ?_
          exact kJ _ _ (trivial) B
        refine W_iconst B (hb hby at_41) (pc' := 42) rfl (z := (1 : Int32)) (by decide) ?_
        refine W_goto B (hb hby at_42) (by decide) (pc' := 46) (by decide) ?_
        exact kJ _ _ (trivial) B
      intro z71 T hz71 B
      refine W_istore B (hb hby at_46) (pc' := 48) rfl (v := z71) rfl (ls' := #[.val (.int a1), .val (.int a2), .val (.int a3), .val (.int a4), .val (.int a5), .val (.int a6), .val (.int (0 : Int32)), .val (.int (1 : Int32)), .val (.int z69), .val (.int z71), .unset, .unset, .unset, .unset, .unset, .unset, .unset, .unset, .unset, .unset, .unset]) rfl ?_
      refine W_iload B (hb hby at_48) (pc' := 50) rfl rfl ?_
      refine W_ifY B (hb hby at_50) (by decide) (pc' := 61) (by decide) (by decide) ?_
      refine W_iload B (hb hby at_61) (pc' := 63) rfl rfl ?_
      refine W_iconst B (hb hby at_63) (pc' := 64) rfl (z := (1 : Int32)) (by decide) ?_
      refine W_icmpN B (hb hby at_64) (pc' := 67) rfl (by decide) ?_
      refine W_iconst B (hb hby at_67) (pc' := 68) rfl (z := (1 : Int32)) (by decide) ?_
      refine W_newarray B (ow hw (i := 0) rfl) (hb hby at_68) (pc' := 70) rfl (by decide) (cap := 1) (by decide) (by decide) (cells' := 1) rfl (slots' := 1) rfl (vs := [(.int (0 : Int32))]) rfl (ty := .int) rfl ?_
      intro T b73 B
      refine W_dup B (hb hby at_70) (pc' := 71) rfl rfl ?_
      refine W_iconst B (hb hby at_71) (pc' := 72) rfl (z := (0 : Int32)) (by decide) ?_
      refine W_iconst B (hb hby at_72) (pc' := 73) rfl (z := (0 : Int32)) (by decide) ?_
      refine W_iastore B (hb hby at_73) (pc' := 74) rfl (i := 0) rfl (by decide) (oLt rfl) (ds' := [(b73, oA .int [o0])]) rfl ?_
      intro T B
      refine W_astore B (hb hby at_74) (pc' := 76) rfl rfl (ls' := #[.val (.int a1), .val (.int a2), .val (.int a3), .val (.int a4), .val (.int a5), .val (.int a6), .val (.int (0 : Int32)), .val (.int (1 : Int32)), .val (.int z69), .val (.int z71), .val (.ref b73), .unset, .unset, .unset, .unset, .unset, .unset, .unset, .unset, .unset, .unset]) rfl ?_
      refine W_goto B (hb hby at_76) (by decide) (pc' := 92) (by decide) ?_
      refine W_iconst B (hb hby at_92) (pc' := 93) rfl (z := (4 : Int32)) (by decide) ?_
      refine W_newarray B (ow hw (i := 0) rfl) (hb hby at_93) (pc' := 95) rfl (by decide) (cap := 4) (by decide) (by decide) (cells' := 2) rfl (slots' := 5) rfl (vs := [(.int (0 : Int32)), (.int (0 : Int32)), (.int (0 : Int32)), (.int (0 : Int32))]) rfl (ty := .int) rfl ?_
      intro T b74 B
      refine W_dup B (hb hby at_95) (pc' := 96) rfl rfl ?_
      refine W_iconst B (hb hby at_96) (pc' := 97) rfl (z := (0 : Int32)) (by decide) ?_
      refine W_iloadN B (hb hby at_97) (pc' := 98) rfl rfl ?_
      refine W_iastore B (hb hby at_98) (pc' := 99) rfl (i := 0) rfl (by decide) (oLt rfl) (ds' := [(b74, oA .int [(.int a1), o0, o0, o0]), (b73, oA .int [o0])]) rfl ?_
      intro T B
      refine W_dup B (hb hby at_99) (pc' := 100) rfl rfl ?_
      refine W_iconst B (hb hby at_100) (pc' := 101) rfl (z := (1 : Int32)) (by decide) ?_
      refine W_iloadN B (hb hby at_101) (pc' := 102) rfl rfl ?_
      refine W_iastore B (hb hby at_102) (pc' := 103) rfl (i := 0) rfl (by decide) (oLt rfl) (ds' := [(b74, oA .int [(.int a1), (.int a2), o0, o0]), (b73, oA .int [o0])]) rfl ?_
      intro T B
      refine W_dup B (hb hby at_103) (pc' := 104) rfl rfl ?_
      refine W_iconst B (hb hby at_104) (pc' := 105) rfl (z := (2 : Int32)) (by decide) ?_
      refine W_iloadN B (hb hby at_105) (pc' := 106) rfl rfl ?_
      refine W_iastore B (hb hby at_106) (pc' := 107) rfl (i := 0) rfl (by decide) (oLt rfl) (ds' := [(b74, oA .int [(.int a1), (.int a2), (.int a3), o0]), (b73, oA .int [o0])]) rfl ?_
      intro T B
      refine W_dup B (hb hby at_107) (pc' := 108) rfl rfl ?_
      refine W_iconst B (hb hby at_108) (pc' := 109) rfl (z := (3 : Int32)) (by decide) ?_
      refine W_iloadN B (hb hby at_109) (pc' := 110) rfl rfl ?_
      refine W_iastore B (hb hby at_110) (pc' := 111) rfl (i := 0) rfl (by decide) (oLt rfl) (ds' := [(b74, oA .int [(.int a1), (.int a2), (.int a3), (.int a4)]), (b73, oA .int [o0])]) rfl ?_
      intro T B
      refine W_astore B (hb hby at_111) (pc' := 113) rfl rfl (ls' := #[.val (.int a1), .val (.int a2), .val (.int a3), .val (.int a4), .val (.int a5), .val (.int a6), .val (.int (0 : Int32)), .val (.int (1 : Int32)), .val (.int z69), .val (.int z71), .val (.ref b73), .val (.ref b74), .unset, .unset, .unset, .unset, .unset, .unset, .unset, .unset, .unset]) rfl ?_
      refine W_iload B (hb hby at_113) (pc' := 115) rfl rfl ?_
      refine W_iload B (hb hby at_115) (pc' := 117) rfl rfl ?_
      refine W_imul B (hb hby at_117) (pc' := 118) rfl (z := (0 : Int32)) (by decide) ?_
      refine W_istore B (hb hby at_118) (pc' := 120) rfl (v := (0 : Int32)) rfl (ls' := #[.val (.int a1), .val (.int a2), .val (.int a3), .val (.int a4), .val (.int a5), .val (.int a6), .val (.int (0 : Int32)), .val (.int (1 : Int32)), .val (.int z69), .val (.int z71), .val (.ref b73), .val (.ref b74), .val (.int (0 : Int32)), .unset, .unset, .unset, .unset, .unset, .unset, .unset, .unset]) rfl ?_
      refine W_iload B (hb hby at_120) (pc' := 122) rfl rfl ?_
      refine W_iconst B (hb hby at_122) (pc' := 123) rfl (z := (1 : Int32)) (by decide) ?_
      refine W_icmpN B (hb hby at_123) (pc' := 126) rfl (by decide) ?_
      refine W_aload B (hb hby at_126) (pc' := 128) rfl rfl rfl ?_
      refine W_iload B (hb hby at_128) (pc' := 130) rfl rfl ?_
      refine W_iaload B (hb hby at_130) (pc' := 131) rfl (i := 0) rfl (by decide) (v := (.int a1)) rfl ?_
      refine W_goto B (hb hby at_131) (by decide) (pc' := 135) (by decide) ?_
      refine W_istore B (hb hby at_135) (pc' := 137) rfl (v := a1) rfl (ls' := #[.val (.int a1), .val (.int a2), .val (.int a3), .val (.int a4), .val (.int a5), .val (.int a6), .val (.int (0 : Int32)), .val (.int (1 : Int32)), .val (.int z69), .val (.int z71), .val (.ref b73), .val (.ref b74), .val (.int (0 : Int32)), .val (.int a1), .unset, .unset, .unset, .unset, .unset, .unset, .unset]) rfl ?_
      refine W_iload B (hb hby at_137) (pc' := 139) rfl rfl ?_
      refine W_iconst B (hb hby at_139) (pc' := 140) rfl (z := (2 : Int32)) (by decide) ?_
      refine W_icmpY B (hb hby at_140) (by decide) (pc' := 153) (by decide) (by decide) ?_
      refine W_iconst B (hb hby at_153) (pc' := 154) rfl (z := (0 : Int32)) (by decide) ?_
      refine W_istore B (hb hby at_154) (pc' := 156) rfl (v := (0 : Int32)) rfl (ls' := #[.val (.int a1), .val (.int a2), .val (.int a3), .val (.int a4), .val (.int a5), .val (.int a6), .val (.int (0 : Int32)), .val (.int (1 : Int32)), .val (.int z69), .val (.int z71), .val (.ref b73), .val (.ref b74), .val (.int (0 : Int32)), .val (.int a1), .val (.int (0 : Int32)), .unset, .unset, .unset, .unset, .unset, .unset]) rfl ?_
      refine oJoin B (fun z75 : Int32 => True) (fun z75 => (mkF m 168 #[.val (.int a1), .val (.int a2), .val (.int a3), .val (.int a4), .val (.int a5), .val (.int a6), .val (.int (0 : Int32)), .val (.int (1 : Int32)), .val (.int z69), .val (.int z71), .val (.ref b73), .val (.ref b74), .val (.int (0 : Int32)), .val (.int a1), .val (.int (0 : Int32)), .unset, .unset, .unset, .unset, .unset, .unset] [(.int z75)])) ?_ ?_
      · intro kJ
        refine W_iload B (hb hby at_156) (pc' := 158) rfl rfl ?_
        refine W_if_eq B (hb hby at_158) (by decide) (pt := 166) (by decide) (pc' := 161) rfl (fun (c76 : z69 = (0 : Int32)) => ?_) (fun (c76 : ¬ z69 = (0 : Int32)) => ?_)
        · refine W_iload B (hb hby at_166) (pc' := 168) rfl rfl ?_
          exact kJ _ _ (trivial) B
        refine W_iload B (hb hby at_161) (pc' := 163) rfl rfl ?_
        refine W_goto B (hb hby at_163) (by decide) (pc' := 168) (by decide) ?_
        exact kJ _ _ (trivial) B
      intro z75 T hz75 B
      refine W_istore B (hb hby at_168) (pc' := 170) rfl (v := z75) rfl (ls' := #[.val (.int a1), .val (.int a2), .val (.int a3), .val (.int a4), .val (.int a5), .val (.int a6), .val (.int (0 : Int32)), .val (.int (1 : Int32)), .val (.int z69), .val (.int z71), .val (.ref b73), .val (.ref b74), .val (.int (0 : Int32)), .val (.int a1), .val (.int (0 : Int32)), .val (.int z75), .unset, .unset, .unset, .unset, .unset]) rfl ?_
      refine oJoin B (fun z77 : Int32 => True) (fun z77 => (mkF m 187 #[.val (.int a1), .val (.int a2), .val (.int a3), .val (.int a4), .val (.int a5), .val (.int a6), .val (.int (0 : Int32)), .val (.int (1 : Int32)), .val (.int z69), .val (.int z71), .val (.ref b73), .val (.ref b74), .val (.int (0 : Int32)), .val (.int a1), .val (.int (0 : Int32)), .val (.int z75), .unset, .unset, .unset, .unset, .unset] [(.int z77)])) ?_ ?_
      · intro kJ
        refine W_iload B (hb hby at_170) (pc' := 172) rfl rfl ?_
        refine W_if_eq B (hb hby at_172) (by decide) (pt := 180) (by decide) (pc' := 175) rfl (fun (c78 : z71 = (0 : Int32)) => ?_) (fun (c78 : ¬ z71 = (0 : Int32)) => ?_)
        · refine W_iload B (hb hby at_180) (pc' := 182) rfl rfl ?_
          refine W_iload B (hb hby at_182) (pc' := 184) rfl rfl ?_
          refine W_iconst B (hb hby at_184) (pc' := 185) rfl (z := (5 : Int32)) (by decide) ?_
          refine W_ishr B (hb hby at_185) (pc' := 186) rfl (z := (a6 >>> ((5 : Int32) &&& 31))) rfl ?_
          refine W_ixor B (hb hby at_186) (pc' := 187) rfl (z := (a5 ^^^ (a6 >>> ((5 : Int32) &&& 31)))) rfl ?_
          exact kJ _ _ (trivial) B
        refine W_iload B (hb hby at_175) (pc' := 177) rfl rfl ?_
        refine W_goto B (hb hby at_177) (by decide) (pc' := 187) (by decide) ?_
        exact kJ _ _ (trivial) B
      intro z77 T hz77 B
      refine W_istore B (hb hby at_187) (pc' := 189) rfl (v := z77) rfl (ls' := #[.val (.int a1), .val (.int a2), .val (.int a3), .val (.int a4), .val (.int a5), .val (.int a6), .val (.int (0 : Int32)), .val (.int (1 : Int32)), .val (.int z69), .val (.int z71), .val (.ref b73), .val (.ref b74), .val (.int (0 : Int32)), .val (.int a1), .val (.int (0 : Int32)), .val (.int z75), .val (.int z77), .unset, .unset, .unset, .unset]) rfl ?_
      refine W_iconst B (hb hby at_189) (pc' := 190) rfl (z := (2 : Int32)) (by decide) ?_
      refine W_newarray B (ow hw (i := 0) rfl) (hb hby at_190) (pc' := 192) rfl (by decide) (cap := 2) (by decide) (by decide) (cells' := 3) rfl (slots' := 7) rfl (vs := [(.int (0 : Int32)), (.int (0 : Int32))]) rfl (ty := .int) rfl ?_
      intro T b79 B
      refine W_dup B (hb hby at_192) (pc' := 193) rfl rfl ?_
      refine W_iconst B (hb hby at_193) (pc' := 194) rfl (z := (0 : Int32)) (by decide) ?_
      refine W_iload B (hb hby at_194) (pc' := 196) rfl rfl ?_
      refine W_iastore B (hb hby at_196) (pc' := 197) rfl (i := 0) rfl (by decide) (oLt rfl) (ds' := [(b79, oA .int [(.int z75), o0]), (b74, oA .int [(.int a1), (.int a2), (.int a3), (.int a4)]), (b73, oA .int [o0])]) rfl ?_
      intro T B
      refine W_dup B (hb hby at_197) (pc' := 198) rfl rfl ?_
      refine W_iconst B (hb hby at_198) (pc' := 199) rfl (z := (1 : Int32)) (by decide) ?_
      refine W_iload B (hb hby at_199) (pc' := 201) rfl rfl ?_
      refine W_iastore B (hb hby at_201) (pc' := 202) rfl (i := 0) rfl (by decide) (oLt rfl) (ds' := [(b79, oA .int [(.int z75), (.int z77)]), (b74, oA .int [(.int a1), (.int a2), (.int a3), (.int a4)]), (b73, oA .int [o0])]) rfl ?_
      intro T B
      refine W_astore B (hb hby at_202) (pc' := 204) rfl rfl (ls' := #[.val (.int a1), .val (.int a2), .val (.int a3), .val (.int a4), .val (.int a5), .val (.int a6), .val (.int (0 : Int32)), .val (.int (1 : Int32)), .val (.int z69), .val (.int z71), .val (.ref b73), .val (.ref b74), .val (.int (0 : Int32)), .val (.int a1), .val (.int (0 : Int32)), .val (.int z75), .val (.int z77), .val (.ref b79), .unset, .unset, .unset]) rfl ?_
      refine W_new B hown (ow hw (i := 1) rfl) (ow hw (i := 2) rfl) (ow hw (i := 3) rfl) (hb hby at_204) (pc' := 207) rfl (by decide) (cells' := 4) rfl (slots' := 18) rfl (fs := [(fk14, .null), (fk15, (.int (0 : Int32))), (fk16, .null), (fk17, .null), (fk18, (.int (0 : Int32))), (fk19, .null), (fk20, .null), (fk21, .null), (fk22, .null), (fk23, .null), (fk24, .null)]) (oAll_cons ⟨Or.inl (ow hw (i := 76) rfl), (.object "com/example/tanglemark/tanglemark/datalog/FactoredRows$Stretch"), by decide, rfl⟩ (oAll_cons ⟨Or.inr (ow hw (i := 78) rfl), .int, by decide, rfl⟩ (oAll_cons ⟨Or.inr (ow hw (i := 80) rfl), (.array .int), by decide, rfl⟩ (oAll_cons ⟨Or.inr (ow hw (i := 82) rfl), (.array .int), by decide, rfl⟩ (oAll_cons ⟨Or.inr (ow hw (i := 84) rfl), .int, by decide, rfl⟩ (oAll_cons ⟨Or.inr (ow hw (i := 86) rfl), (.array .int), by decide, rfl⟩ (oAll_cons ⟨Or.inr (ow hw (i := 88) rfl), (.array .int), by decide, rfl⟩ (oAll_cons ⟨Or.inr (ow hw (i := 90) rfl), (.object "com/example/tanglemark/tanglemark/datalog/SharedSets"), by decide, rfl⟩ (oAll_cons ⟨Or.inr (ow hw (i := 92) rfl), (.array .int), by decide, rfl⟩ (oAll_cons ⟨Or.inr (ow hw (i := 94) rfl), (.array .int), by decide, rfl⟩ (oAll_cons ⟨Or.inr (ow hw (i := 97) rfl), (.array .int), by decide, rfl⟩ oAll_nil))))))))))) (by decide) ?_
      intro T b80 B
      refine W_dup B (hb hby at_207) (pc' := 208) rfl rfl ?_
      refine W_iconst B (hb hby at_208) (pc' := 209) rfl (z := (3 : Int32)) (by decide) ?_
      refine W_aload B (hb hby at_209) (pc' := 211) rfl rfl rfl ?_
      refine W_aload B (hb hby at_211) (pc' := 213) rfl rfl rfl ?_
      refine W_bipush B (hb hby at_213) (pc' := 215) rfl (z := (6 : Int32)) (by decide) ?_
      refine W_newarray B (ow hw (i := 0) rfl) (hb hby at_215) (pc' := 217) rfl (by decide) (cap := 6) (by decide) (by decide) (cells' := 5) rfl (slots' := 24) rfl (vs := [(.int (0 : Int32)), (.int (0 : Int32)), (.int (0 : Int32)), (.int (0 : Int32)), (.int (0 : Int32)), (.int (0 : Int32))]) rfl (ty := .int) rfl ?_
      intro T b81 B
      refine W_new B hown (ow hw (i := 4) rfl) (ow hw (i := 5) rfl) (ow hw (i := 6) rfl) (hb hby at_217) (pc' := 220) rfl (by decide) (cells' := 6) rfl (slots' := 31) rfl (fs := [(fk3, .null), (fk4, .null), (fk5, .null), (fk6, .null), (fk7, .null), (fk8, .null), (fk9, .null)]) (oAll_cons ⟨Or.inr (ow hw (i := 43) rfl), (.object "com/example/tanglemark/tanglemark/datalog/Ints"), by decide, rfl⟩ (oAll_cons ⟨Or.inr (ow hw (i := 45) rfl), (.object "com/example/tanglemark/tanglemark/datalog/Ints"), by decide, rfl⟩ (oAll_cons ⟨Or.inr (ow hw (i := 47) rfl), (.object "com/example/tanglemark/tanglemark/datalog/Ints"), by decide, rfl⟩ (oAll_cons ⟨Or.inr (ow hw (i := 49) rfl), (.object "com/example/tanglemark/tanglemark/datalog/Ints"), by decide, rfl⟩ (oAll_cons ⟨Or.inr (ow hw (i := 51) rfl), (.object "com/example/tanglemark/tanglemark/datalog/Ints"), by decide, rfl⟩ (oAll_cons ⟨Or.inr (ow hw (i := 53) rfl), (.object "com/example/tanglemark/tanglemark/datalog/Ints"), by decide, rfl⟩ (oAll_cons ⟨Or.inr (ow hw (i := 55) rfl), (.object "com/example/tanglemark/tanglemark/datalog/Ints"), by decide, rfl⟩ oAll_nil))))))) (by decide) ?_
      intro T b82 B
      refine W_dup B (hb hby at_220) (pc' := 221) rfl rfl ?_
      refine W_ldcStr B hS (n := 4) hown (ow hw (i := 7) rfl) (own_strAtoms hw) (hb hby at_221) (pc' := 223) rfl (by decide) (by decide) (cells' := 8) rfl (slots' := 39) rfl ?_
      intro T sa83 vm_ lo B hS hown
      refine W_init B (y := (⟨"com/example/tanglemark/tanglemark/datalog/SharedSets", "<init>", "(Ljava/lang/String;)V"⟩ : MethodName)) hown rfl (ow hw (i := 15) rfl) (ow hw (i := 16) rfl) (ow hw (i := 6) rfl) (ow hw (i := 17) rfl) (by decide) (a := b82) (rm_sets l Z a0 hw h0 b82 sa83 [(b81, oA .int [o0, o0, o0, o0, o0, o0]), (b80, oO cn3 [(fk14, .null), (fk15, (.int (0 : Int32))), (fk16, .null), (fk17, .null), (fk18, (.int (0 : Int32))), (fk19, .null), (fk20, .null), (fk21, .null), (fk22, .null), (fk23, .null), (fk24, .null)]), (b79, oA .int [(.int z75), (.int z77)]), (b74, oA .int [(.int a1), (.int a2), (.int a3), (.int a4)]), (b73, oA .int [o0])]) (lenOf pd_2 rfl) (hb hby at_223) (pc' := 226) rfl (argsL := [(.ref sa83)]) (rest := [(.ref b82), (.ref b81), (.ref b74), (.ref b73), (.int (3 : Int32)), (.ref b80), (.ref b80)]) rfl (by rw [hml]; rfl) (W := 7) (oLe rfl) (by decide) (cells' := 22) rfl (slots' := 179) rfl ?_
      intro T v_ d_ q_ B
      obtain ⟨e84, e85, e86, e87, e88, e89, e90, e91, e92, e93, e94, e95, e96, e97, e98, rfl, rfl⟩ := q_
      show oWin p e below Z h0 _ _ (T.setTop (mkF m 226 #[.val (.int a1), .val (.int a2), .val (.int a3), .val (.int a4), .val (.int a5), .val (.int a6), .val (.int (0 : Int32)), .val (.int (1 : Int32)), .val (.int z69), .val (.int z71), .val (.ref b73), .val (.ref b74), .val (.int (0 : Int32)), .val (.int a1), .val (.int (0 : Int32)), .val (.int z75), .val (.int z77), .val (.ref b79), .unset, .unset, .unset] [(.ref b82), (.ref b81), (.ref b74), (.ref b73), (.int (3 : Int32)), (.ref b80), (.ref b80)]))
      refine W_iconst B (hb hby at_226) (pc' := 227) rfl (z := (2 : Int32)) (by decide) ?_
      refine W_newarray B (ow hw (i := 0) rfl) (hb hby at_227) (pc' := 229) rfl (by decide) (cap := 2) (by decide) (by decide) (cells' := 23) rfl (slots' := 181) rfl (vs := [(.int (0 : Int32)), (.int (0 : Int32))]) rfl (ty := .int) rfl ?_
      intro T b99 B
      refine W_dup B (hb hby at_229) (pc' := 230) rfl rfl ?_
      refine W_iconst B (hb hby at_230) (pc' := 231) rfl (z := (0 : Int32)) (by decide) ?_
      refine W_iconst B (hb hby at_231) (pc' := 232) rfl (z := (0 : Int32)) (by decide) ?_
      refine W_iastore B (hb hby at_232) (pc' := 233) rfl (i := 0) rfl (by decide) (oLt rfl) (ds' := [(b99, oA .int [o0, o0]), e84, e85, e86, e87, e88, e89, e90, e91, e92, e93, e94, e95, e96, e97, e98, (b81, oA .int [o0, o0, o0, o0, o0, o0]), (b80, oO cn3 [(fk14, .null), (fk15, (.int (0 : Int32))), (fk16, .null), (fk17, .null), (fk18, (.int (0 : Int32))), (fk19, .null), (fk20, .null), (fk21, .null), (fk22, .null), (fk23, .null), (fk24, .null)]), (b79, oA .int [(.int z75), (.int z77)]), (b74, oA .int [(.int a1), (.int a2), (.int a3), (.int a4)]), (b73, oA .int [o0])]) rfl ?_
      intro T B
      refine W_dup B (hb hby at_233) (pc' := 234) rfl rfl ?_
      refine W_iconst B (hb hby at_234) (pc' := 235) rfl (z := (1 : Int32)) (by decide) ?_
      refine W_iconst B (hb hby at_235) (pc' := 236) rfl (z := (0 : Int32)) (by decide) ?_
      refine W_iastore B (hb hby at_236) (pc' := 237) rfl (i := 0) rfl (by decide) (oLt rfl) (ds' := [(b99, oA .int [o0, o0]), e84, e85, e86, e87, e88, e89, e90, e91, e92, e93, e94, e95, e96, e97, e98, (b81, oA .int [o0, o0, o0, o0, o0, o0]), (b80, oO cn3 [(fk14, .null), (fk15, (.int (0 : Int32))), (fk16, .null), (fk17, .null), (fk18, (.int (0 : Int32))), (fk19, .null), (fk20, .null), (fk21, .null), (fk22, .null), (fk23, .null), (fk24, .null)]), (b79, oA .int [(.int z75), (.int z77)]), (b74, oA .int [(.int a1), (.int a2), (.int a3), (.int a4)]), (b73, oA .int [o0])]) rfl ?_
      intro T B
      refine W_iconst B (hb hby at_237) (pc' := 238) rfl (z := (3 : Int32)) (by decide) ?_
      refine W_newarray B (ow hw (i := 0) rfl) (hb hby at_238) (pc' := 240) rfl (by decide) (cap := 3) (by decide) (by decide) (cells' := 24) rfl (slots' := 184) rfl (vs := [(.int (0 : Int32)), (.int (0 : Int32)), (.int (0 : Int32))]) rfl (ty := .int) rfl ?_
      intro T b100 B
      refine W_dup B (hb hby at_240) (pc' := 241) rfl rfl ?_
      refine W_iconst B (hb hby at_241) (pc' := 242) rfl (z := (0 : Int32)) (by decide) ?_
      refine W_iconst B (hb hby at_242) (pc' := 243) rfl (z := (0 : Int32)) (by decide) ?_
      refine W_iastore B (hb hby at_243) (pc' := 244) rfl (i := 0) rfl (by decide) (oLt rfl) (ds' := [(b100, oA .int [o0, o0, o0]), (b99, oA .int [o0, o0]), e84, e85, e86, e87, e88, e89, e90, e91, e92, e93, e94, e95, e96, e97, e98, (b81, oA .int [o0, o0, o0, o0, o0, o0]), (b80, oO cn3 [(fk14, .null), (fk15, (.int (0 : Int32))), (fk16, .null), (fk17, .null), (fk18, (.int (0 : Int32))), (fk19, .null), (fk20, .null), (fk21, .null), (fk22, .null), (fk23, .null), (fk24, .null)]), (b79, oA .int [(.int z75), (.int z77)]), (b74, oA .int [(.int a1), (.int a2), (.int a3), (.int a4)]), (b73, oA .int [o0])]) rfl ?_
      intro T B
      refine W_dup B (hb hby at_244) (pc' := 245) rfl rfl ?_
      refine W_iconst B (hb hby at_245) (pc' := 246) rfl (z := (1 : Int32)) (by decide) ?_
      refine W_iconst B (hb hby at_246) (pc' := 247) rfl (z := (1 : Int32)) (by decide) ?_
      refine W_iastore B (hb hby at_247) (pc' := 248) rfl (i := 0) rfl (by decide) (oLt rfl) (ds' := [(b100, oA .int [o0, (.int (1 : Int32)), o0]), (b99, oA .int [o0, o0]), e84, e85, e86, e87, e88, e89, e90, e91, e92, e93, e94, e95, e96, e97, e98, (b81, oA .int [o0, o0, o0, o0, o0, o0]), (b80, oO cn3 [(fk14, .null), (fk15, (.int (0 : Int32))), (fk16, .null), (fk17, .null), (fk18, (.int (0 : Int32))), (fk19, .null), (fk20, .null), (fk21, .null), (fk22, .null), (fk23, .null), (fk24, .null)]), (b79, oA .int [(.int z75), (.int z77)]), (b74, oA .int [(.int a1), (.int a2), (.int a3), (.int a4)]), (b73, oA .int [o0])]) rfl ?_
      intro T B
      refine W_dup B (hb hby at_248) (pc' := 249) rfl rfl ?_
      refine W_iconst B (hb hby at_249) (pc' := 250) rfl (z := (2 : Int32)) (by decide) ?_
      refine W_iconst B (hb hby at_250) (pc' := 251) rfl (z := (2 : Int32)) (by decide) ?_
      refine W_iastore B (hb hby at_251) (pc' := 252) rfl (i := 0) rfl (by decide) (oLt rfl) (ds' := [(b100, oA .int [o0, (.int (1 : Int32)), (.int (2 : Int32))]), (b99, oA .int [o0, o0]), e84, e85, e86, e87, e88, e89, e90, e91, e92, e93, e94, e95, e96, e97, e98, (b81, oA .int [o0, o0, o0, o0, o0, o0]), (b80, oO cn3 [(fk14, .null), (fk15, (.int (0 : Int32))), (fk16, .null), (fk17, .null), (fk18, (.int (0 : Int32))), (fk19, .null), (fk20, .null), (fk21, .null), (fk22, .null), (fk23, .null), (fk24, .null)]), (b79, oA .int [(.int z75), (.int z77)]), (b74, oA .int [(.int a1), (.int a2), (.int a3), (.int a4)]), (b73, oA .int [o0])]) rfl ?_
      intro T B
      refine W_init B (y := (⟨"com/example/tanglemark/tanglemark/datalog/FactoredRows", "<init>", "(I[I[I[ILcom/example/tanglemark/tanglemark/datalog/SharedSets;[I[I)V"⟩ : MethodName)) hown rfl (ow hw (i := 56) rfl) (ow hw (i := 57) rfl) (ow hw (i := 3) rfl) (ow hw (i := 58) rfl) (by decide) (a := b80) (rm_fr1 l Z a0 hw h0 b80 b73 b74 b81 b82 b99 b100 e84 e85 e86 e87 e88 e89 e90 e91 e92 e93 e94 e95 e96 e97 e98 (b81, oA .int [o0, o0, o0, o0, o0, o0]) (b79, oA .int [(.int z75), (.int z77)]) (b74, oA .int [(.int a1), (.int a2), (.int a3), (.int a4)]) []) (lenOf pd_4 rfl) (hb hby at_252) (pc' := 255) rfl (argsL := [(.int (3 : Int32)), (.ref b73), (.ref b74), (.ref b81), (.ref b82), (.ref b99), (.ref b100)]) (rest := [(.ref b80)]) rfl (by rw [hml]; rfl) (W := 1) (oLe rfl) (by decide) (cells' := 27) rfl (slots' := 193) rfl ?_
      intro T v_ d_ q_ B
      obtain ⟨b101, b102, b103, rfl, rfl⟩ := q_
      show oWin p e below Z h0 _ _ (T.setTop (mkF m 255 #[.val (.int a1), .val (.int a2), .val (.int a3), .val (.int a4), .val (.int a5), .val (.int a6), .val (.int (0 : Int32)), .val (.int (1 : Int32)), .val (.int z69), .val (.int z71), .val (.ref b73), .val (.ref b74), .val (.int (0 : Int32)), .val (.int a1), .val (.int (0 : Int32)), .val (.int z75), .val (.int z77), .val (.ref b79), .unset, .unset, .unset] [(.ref b80)]))
      refine W_astore B (hb hby at_255) (pc' := 257) rfl rfl (ls' := #[.val (.int a1), .val (.int a2), .val (.int a3), .val (.int a4), .val (.int a5), .val (.int a6), .val (.int (0 : Int32)), .val (.int (1 : Int32)), .val (.int z69), .val (.int z71), .val (.ref b73), .val (.ref b74), .val (.int (0 : Int32)), .val (.int a1), .val (.int (0 : Int32)), .val (.int z75), .val (.int z77), .val (.ref b79), .val (.ref b80), .unset, .unset]) rfl ?_
      refine W_aload B (hb hby at_257) (pc' := 259) rfl rfl rfl ?_
      refine W_iload B (hb hby at_259) (pc' := 261) rfl rfl ?_
      refine W_aload B (hb hby at_261) (pc' := 263) rfl rfl rfl ?_
      refine W_virtual B (y := (⟨"com/example/tanglemark/tanglemark/datalog/FactoredRows", "keyHas", "(I[I)Z"⟩ : MethodName)) (z := (⟨"com/example/tanglemark/tanglemark/datalog/FactoredRows", "keyHas", "(I[I)Z"⟩ : MethodName)) hown (ow hw (i := 98) rfl) (ow hw (i := 99) rfl) (oNotFace B (ow hw (i := 101) rfl) rfl) (ow hw (i := 101) rfl) (ow hw (i := 100) rfl) (ow hw (i := 3) rfl) (ow hw (i := 102) rfl) (by decide) (a := b80) (rm_kh10 l Z a0 hw h0 b80 b79 b73 b74 b81 b82 b99 b100 b101 b102 b103 a1 a2 a3 a4 z75 z77 (b101, oA .int [o0, (.int (1 : Int32))]) (b102, oA .int [o0, (.int (-1 : Int32)), (.int (-2 : Int32))]) (b103, oO cn2 [(fk10, (.int (0 : Int32))), (fk11, (.int (0 : Int32))), (fk12, (.int (0 : Int32))), (fk13, (.int (0 : Int32)))]) (b100, oA .int [o0, (.int (1 : Int32)), (.int (2 : Int32))]) (b99, oA .int [o0, o0]) e84 e85 e86 e87 e88 e89 e90 e91 e92 e93 e94 e95 e96 e97 e98 (b81, oA .int [o0, o0, o0, o0, o0, o0]) []) (lenOf pd_5 rfl) (hb hby at_263) (pc' := 266) rfl (argsL := [(.int (0 : Int32)), (.ref b79)]) (rest := []) rfl (by rw [hml]; rfl) (W := 0) (oLe rfl) (j := 21) rfl (by decide) (cells' := 27) rfl (slots' := 193) rfl ?_
      intro T v_ d_ q_ B
      rcases q_ with ⟨q104, rfl, rfl⟩ | ⟨q105, rfl, rfl⟩
      · show oWin p e below Z h0 _ _ (T.setTop (mkF m 266 #[.val (.int a1), .val (.int a2), .val (.int a3), .val (.int a4), .val (.int a5), .val (.int a6), .val (.int (0 : Int32)), .val (.int (1 : Int32)), .val (.int z69), .val (.int z71), .val (.ref b73), .val (.ref b74), .val (.int (0 : Int32)), .val (.int a1), .val (.int (0 : Int32)), .val (.int z75), .val (.int z77), .val (.ref b79), .val (.ref b80), .unset, .unset] [(.int (1 : Int32))]))
        refine W_istore B (hb hby at_266) (pc' := 268) rfl (v := (1 : Int32)) rfl (ls' := #[.val (.int a1), .val (.int a2), .val (.int a3), .val (.int a4), .val (.int a5), .val (.int a6), .val (.int (0 : Int32)), .val (.int (1 : Int32)), .val (.int z69), .val (.int z71), .val (.ref b73), .val (.ref b74), .val (.int (0 : Int32)), .val (.int a1), .val (.int (0 : Int32)), .val (.int z75), .val (.int z77), .val (.ref b79), .val (.ref b80), .val (.int (1 : Int32)), .unset]) rfl ?_
        refine W_iload B (hb hby at_268) (pc' := 270) rfl rfl ?_
        refine W_ifY B (hb hby at_270) (by decide) (pc' := 279) (by decide) (by decide) ?_
        refine W_iload B (hb hby at_279) (pc' := 281) rfl rfl ?_
        refine W_iconst B (hb hby at_281) (pc' := 282) rfl (z := (1 : Int32)) (by decide) ?_
        refine W_icmpN B (hb hby at_282) (pc' := 285) rfl (by decide) ?_
        refine W_iload B (hb hby at_285) (pc' := 287) rfl rfl ?_
        refine W_iload B (hb hby at_287) (pc' := 289) rfl rfl ?_
        refine W_icmp_ne B (hb hby at_289) (by decide) (pt := 296) (by decide) (pc' := 292) rfl (fun (c106 : ¬ z75 = a1) => ?_) (fun (c106 : z75 = a1) => ?_)
        · refine W_iconst B (hb hby at_296) (pc' := 297) rfl (z := (0 : Int32)) (by decide) ?_
          refine W_istore B (hb hby at_297) (pc' := 299) rfl (v := (0 : Int32)) rfl (ls' := #[.val (.int a1), .val (.int a2), .val (.int a3), .val (.int a4), .val (.int a5), .val (.int a6), .val (.int (0 : Int32)), .val (.int (1 : Int32)), .val (.int z69), .val (.int z71), .val (.ref b73), .val (.ref b74), .val (.int (0 : Int32)), .val (.int a1), .val (.int (0 : Int32)), .val (.int z75), .val (.int z77), .val (.ref b79), .val (.ref b80), .val (.int (1 : Int32)), .val (.int (0 : Int32))]) rfl ?_
          refine W_goto B (hb hby at_299) (by decide) (pc' := 323) (by decide) ?_
          refine W_iload B (hb hby at_323) (pc' := 325) rfl rfl ?_
          refine W_iload B (hb hby at_325) (pc' := 327) rfl rfl ?_
          refine W_icmpY B (hb hby at_327) (by decide) (pc' := 334) (by decide) (by decide) ?_
          refine W_iconst B (hb hby at_334) (pc' := 335) rfl (z := (0 : Int32)) (by decide) ?_
          refine W_retNW B hS hret (by simp) (hb hby at_335) (by decide) ?_
          exfalso
          have fq1 := orI a1
          have fq2 := orI z75
          have fq3 := oeqI q104
          have fq4 := oneI c106
          omega
        refine W_iconst B (hb hby at_292) (pc' := 293) rfl (z := (1 : Int32)) (by decide) ?_
        refine W_goto B (hb hby at_293) (by decide) (pc' := 297) (by decide) ?_
        refine W_istore B (hb hby at_297) (pc' := 299) rfl (v := (1 : Int32)) rfl (ls' := #[.val (.int a1), .val (.int a2), .val (.int a3), .val (.int a4), .val (.int a5), .val (.int a6), .val (.int (0 : Int32)), .val (.int (1 : Int32)), .val (.int z69), .val (.int z71), .val (.ref b73), .val (.ref b74), .val (.int (0 : Int32)), .val (.int a1), .val (.int (0 : Int32)), .val (.int z75), .val (.int z77), .val (.ref b79), .val (.ref b80), .val (.int (1 : Int32)), .val (.int (1 : Int32))]) rfl ?_
        refine W_goto B (hb hby at_299) (by decide) (pc' := 323) (by decide) ?_
        refine W_iload B (hb hby at_323) (pc' := 325) rfl rfl ?_
        refine W_iload B (hb hby at_325) (pc' := 327) rfl rfl ?_
        refine W_icmpN B (hb hby at_327) (pc' := 330) rfl (by decide) ?_
        refine W_iconst B (hb hby at_330) (pc' := 331) rfl (z := (1 : Int32)) (by decide) ?_
        refine W_goto B (hb hby at_331) (by decide) (pc' := 335) (by decide) ?_
        refine W_retNW B hS hret (by simp) (hb hby at_335) (by decide) ?_
        rfl
      show oWin p e below Z h0 _ _ (T.setTop (mkF m 266 #[.val (.int a1), .val (.int a2), .val (.int a3), .val (.int a4), .val (.int a5), .val (.int a6), .val (.int (0 : Int32)), .val (.int (1 : Int32)), .val (.int z69), .val (.int z71), .val (.ref b73), .val (.ref b74), .val (.int (0 : Int32)), .val (.int a1), .val (.int (0 : Int32)), .val (.int z75), .val (.int z77), .val (.ref b79), .val (.ref b80), .unset, .unset] [(.int (0 : Int32))]))
      refine W_istore B (hb hby at_266) (pc' := 268) rfl (v := (0 : Int32)) rfl (ls' := #[.val (.int a1), .val (.int a2), .val (.int a3), .val (.int a4), .val (.int a5), .val (.int a6), .val (.int (0 : Int32)), .val (.int (1 : Int32)), .val (.int z69), .val (.int z71), .val (.ref b73), .val (.ref b74), .val (.int (0 : Int32)), .val (.int a1), .val (.int (0 : Int32)), .val (.int z75), .val (.int z77), .val (.ref b79), .val (.ref b80), .val (.int (0 : Int32)), .unset]) rfl ?_
      refine W_iload B (hb hby at_268) (pc' := 270) rfl rfl ?_
      refine W_ifY B (hb hby at_270) (by decide) (pc' := 279) (by decide) (by decide) ?_
      refine W_iload B (hb hby at_279) (pc' := 281) rfl rfl ?_
      refine W_iconst B (hb hby at_281) (pc' := 282) rfl (z := (1 : Int32)) (by decide) ?_
      refine W_icmpN B (hb hby at_282) (pc' := 285) rfl (by decide) ?_
      refine W_iload B (hb hby at_285) (pc' := 287) rfl rfl ?_
      refine W_iload B (hb hby at_287) (pc' := 289) rfl rfl ?_
      refine W_icmp_ne B (hb hby at_289) (by decide) (pt := 296) (by decide) (pc' := 292) rfl (fun (c107 : ¬ z75 = a1) => ?_) (fun (c107 : z75 = a1) => ?_)
      · refine W_iconst B (hb hby at_296) (pc' := 297) rfl (z := (0 : Int32)) (by decide) ?_
        refine W_istore B (hb hby at_297) (pc' := 299) rfl (v := (0 : Int32)) rfl (ls' := #[.val (.int a1), .val (.int a2), .val (.int a3), .val (.int a4), .val (.int a5), .val (.int a6), .val (.int (0 : Int32)), .val (.int (1 : Int32)), .val (.int z69), .val (.int z71), .val (.ref b73), .val (.ref b74), .val (.int (0 : Int32)), .val (.int a1), .val (.int (0 : Int32)), .val (.int z75), .val (.int z77), .val (.ref b79), .val (.ref b80), .val (.int (0 : Int32)), .val (.int (0 : Int32))]) rfl ?_
        refine W_goto B (hb hby at_299) (by decide) (pc' := 323) (by decide) ?_
        refine W_iload B (hb hby at_323) (pc' := 325) rfl rfl ?_
        refine W_iload B (hb hby at_325) (pc' := 327) rfl rfl ?_
        refine W_icmpN B (hb hby at_327) (pc' := 330) rfl (by decide) ?_
        refine W_iconst B (hb hby at_330) (pc' := 331) rfl (z := (1 : Int32)) (by decide) ?_
        refine W_goto B (hb hby at_331) (by decide) (pc' := 335) (by decide) ?_
        refine W_retNW B hS hret (by simp) (hb hby at_335) (by decide) ?_
        rfl
      refine W_iconst B (hb hby at_292) (pc' := 293) rfl (z := (1 : Int32)) (by decide) ?_
      refine W_goto B (hb hby at_293) (by decide) (pc' := 297) (by decide) ?_
      refine W_istore B (hb hby at_297) (pc' := 299) rfl (v := (1 : Int32)) rfl (ls' := #[.val (.int a1), .val (.int a2), .val (.int a3), .val (.int a4), .val (.int a5), .val (.int a6), .val (.int (0 : Int32)), .val (.int (1 : Int32)), .val (.int z69), .val (.int z71), .val (.ref b73), .val (.ref b74), .val (.int (0 : Int32)), .val (.int a1), .val (.int (0 : Int32)), .val (.int z75), .val (.int z77), .val (.ref b79), .val (.ref b80), .val (.int (0 : Int32)), .val (.int (1 : Int32))]) rfl ?_
      refine W_goto B (hb hby at_299) (by decide) (pc' := 323) (by decide) ?_
      refine W_iload B (hb hby at_323) (pc' := 325) rfl rfl ?_
      refine W_iload B (hb hby at_325) (pc' := 327) rfl rfl ?_
      refine W_icmpY B (hb hby at_327) (by decide) (pc' := 334) (by decide) (by decide) ?_
      refine W_iconst B (hb hby at_334) (pc' := 335) rfl (z := (0 : Int32)) (by decide) ?_
      refine W_retNW B hS hret (by simp) (hb hby at_335) (by decide) ?_
      exfalso
      have fq1 := orI a1
      have fq2 := orI z75
      have fq3 := oneI q105
      have fq4 := oeqI c107
      omega
    refine oJoin B (fun z108 : Int32 => True) (fun z108 => (mkF m 30 #[.val (.int a1), .val (.int a2), .val (.int a3), .val (.int a4), .val (.int a5), .val (.int a6), .val (.int (0 : Int32)), .val (.int (2 : Int32)), .unset, .unset, .unset, .unset, .unset, .unset, .unset, .unset, .unset, .unset, .unset, .unset, .unset] [(.int z108)])) ?_ ?_
    · intro kJ
      refine W_iload B (hb hby at_16) (pc' := 18) rfl rfl ?_
      refine W_iconst B (hb hby at_18) (pc' := 19) rfl (z := (3 : Int32)) (by decide) ?_
      refine W_iushr B (hb hby at_19) (pc' := 20) rfl (z := ((a6.toUInt32 >>> ((3 : Int32) &&& 31).toUInt32).toInt32)) rfl ?_
      refine W_iconst B (hb hby at_20) (pc' := 21) rfl (z := (1 : Int32)) (by decide) ?_
      refine W_iand B (hb hby at_21) (pc' := 22) rfl (z := (((a6.toUInt32 >>> ((3 : Int32) &&& 31).toUInt32).toInt32) &&& (1 : Int32))) rfl ?_
      refine W_if_eq B (hb hby at_22) (by decide) (pt := 29) (by decide) (pc' := 25) rfl (fun (c109 : (((a6.toUInt32 >>> ((3 : Int32) &&& 31).toUInt32).toInt32) &&& (1 : Int32)) = (0 : Int32)) => ?_) (fun (c109 : ¬ (((a6.toUInt32 >>> ((3 : Int32) &&& 31).toUInt32).toInt32) &&& (1 : Int32)) = (0 : Int32)) => ?_)
      · refine W_iconst B (hb hby at_29) (pc' := 30) rfl (z := (0 : Int32)) (by decide) ?_
        exact kJ _ _ (trivial) B
      refine W_iconst B (hb hby at_25) (pc' := 26) rfl (z := (1 : Int32)) (by decide) ?_
      refine W_goto B (hb hby at_26) (by decide) (pc' := 30) (by decide) ?_
      exact kJ _ _ (trivial) B
    intro z108 T hz108 B
    refine W_istore B (hb hby at_30) (pc' := 32) rfl (v := z108) rfl (ls' := #[.val (.int a1), .val (.int a2), .val (.int a3), .val (.int a4), .val (.int a5), .val (.int a6), .val (.int (0 : Int32)), .val (.int (2 : Int32)), .val (.int z108), .unset, .unset, .unset, .unset, .unset, .unset, .unset, .unset, .unset, .unset, .unset, .unset]) rfl ?_
    refine oJoin B (fun z110 : Int32 => True) (fun z110 => (mkF m 46 #[.val (.int a1), .val (.int a2), .val (.int a3), .val (.int a4), .val (.int a5), .val (.int a6), .val (.int (0 : Int32)), .val (.int (2 : Int32)), .val (.int z108), .unset, .unset, .unset, .unset, .unset, .unset, .unset, .unset, .unset, .unset, .unset, .unset] [(.int z110)])) ?_ ?_
    · intro kJ
      refine W_iload B (hb hby at_32) (pc' := 34) rfl rfl ?_
      refine W_iconst B (hb hby at_34) (pc' := 35) rfl (z := (4 : Int32)) (by decide) ?_
      refine W_iushr B (hb hby at_35) (pc' := 36) rfl (z := ((a6.toUInt32 >>> ((4 : Int32) &&& 31).toUInt32).toInt32)) rfl ?_
      refine W_iconst B (hb hby at_36) (pc' := 37) rfl (z := (1 : Int32)) (by decide) ?_
      refine W_iand B (hb hby at_37) (pc' := 38) rfl (z := (((a6.toUInt32 >>> ((4 : Int32) &&& 31).toUInt32).toInt32) &&& (1 : Int32))) rfl ?_
      refine W_if_eq B (hb hby at_38) (by decide) (pt := 45) (by decide) (pc' := 41) rfl (fun (c111 : (((a6.toUInt32 >>> ((4 : Int32) &&& 31).toUInt32).toInt32) &&& (1 : Int32)) = (0 : Int32)) => ?_) (fun (c111 : ¬ (((a6.toUInt32 >>> ((4 : Int32) &&& 31).toUInt32).toInt32) &&& (1 : Int32)) = (0 : Int32)) => ?_)
      · refine W_iconst B (hb hby at_45) (pc' := 46) rfl (z := (0 : Int32)) (by decide) ?_
        exact kJ _ _ (trivial) B
      refine W_iconst B (hb hby at_41) (pc' := 42) rfl (z := (1 : Int32)) (by decide) ?_
      refine W_goto B (hb hby at_42) (by decide) (pc' := 46) (by decide) ?_
      exact kJ _ _ (trivial) B
    intro z110 T hz110 B
    refine W_istore B (hb hby at_46) (pc' := 48) rfl (v := z110) rfl (ls' := #[.val (.int a1), .val (.int a2), .val (.int a3), .val (.int a4), .val (.int a5), .val (.int a6), .val (.int (0 : Int32)), .val (.int (2 : Int32)), .val (.int z108), .val (.int z110), .unset, .unset, .unset, .unset, .unset, .unset, .unset, .unset, .unset, .unset, .unset]) rfl ?_
    refine W_iload B (hb hby at_48) (pc' := 50) rfl rfl ?_
    refine W_ifY B (hb hby at_50) (by decide) (pc' := 61) (by decide) (by decide) ?_
    refine W_iload B (hb hby at_61) (pc' := 63) rfl rfl ?_
    refine W_iconst B (hb hby at_63) (pc' := 64) rfl (z := (1 : Int32)) (by decide) ?_
    refine W_icmpY B (hb hby at_64) (by decide) (pc' := 79) (by decide) (by decide) ?_
    refine W_iconst B (hb hby at_79) (pc' := 80) rfl (z := (2 : Int32)) (by decide) ?_
    refine W_newarray B (ow hw (i := 0) rfl) (hb hby at_80) (pc' := 82) rfl (by decide) (cap := 2) (by decide) (by decide) (cells' := 1) rfl (slots' := 2) rfl (vs := [(.int (0 : Int32)), (.int (0 : Int32))]) rfl (ty := .int) rfl ?_
    intro T b112 B
    refine W_dup B (hb hby at_82) (pc' := 83) rfl rfl ?_
    refine W_iconst B (hb hby at_83) (pc' := 84) rfl (z := (0 : Int32)) (by decide) ?_
    refine W_iconst B (hb hby at_84) (pc' := 85) rfl (z := (0 : Int32)) (by decide) ?_
    refine W_iastore B (hb hby at_85) (pc' := 86) rfl (i := 0) rfl (by decide) (oLt rfl) (ds' := [(b112, oA .int [o0, o0])]) rfl ?_
    intro T B
    refine W_dup B (hb hby at_86) (pc' := 87) rfl rfl ?_
    refine W_iconst B (hb hby at_87) (pc' := 88) rfl (z := (1 : Int32)) (by decide) ?_
    refine W_iconst B (hb hby at_88) (pc' := 89) rfl (z := (1 : Int32)) (by decide) ?_
    refine W_iastore B (hb hby at_89) (pc' := 90) rfl (i := 0) rfl (by decide) (oLt rfl) (ds' := [(b112, oA .int [o0, (.int (1 : Int32))])]) rfl ?_
    intro T B
    refine W_astore B (hb hby at_90) (pc' := 92) rfl rfl (ls' := #[.val (.int a1), .val (.int a2), .val (.int a3), .val (.int a4), .val (.int a5), .val (.int a6), .val (.int (0 : Int32)), .val (.int (2 : Int32)), .val (.int z108), .val (.int z110), .val (.ref b112), .unset, .unset, .unset, .unset, .unset, .unset, .unset, .unset, .unset, .unset]) rfl ?_
    refine W_iconst B (hb hby at_92) (pc' := 93) rfl (z := (4 : Int32)) (by decide) ?_
    refine W_newarray B (ow hw (i := 0) rfl) (hb hby at_93) (pc' := 95) rfl (by decide) (cap := 4) (by decide) (by decide) (cells' := 2) rfl (slots' := 6) rfl (vs := [(.int (0 : Int32)), (.int (0 : Int32)), (.int (0 : Int32)), (.int (0 : Int32))]) rfl (ty := .int) rfl ?_
    intro T b113 B
    refine W_dup B (hb hby at_95) (pc' := 96) rfl rfl ?_
    refine W_iconst B (hb hby at_96) (pc' := 97) rfl (z := (0 : Int32)) (by decide) ?_
    refine W_iloadN B (hb hby at_97) (pc' := 98) rfl rfl ?_
    refine W_iastore B (hb hby at_98) (pc' := 99) rfl (i := 0) rfl (by decide) (oLt rfl) (ds' := [(b113, oA .int [(.int a1), o0, o0, o0]), (b112, oA .int [o0, (.int (1 : Int32))])]) rfl ?_
    intro T B
    refine W_dup B (hb hby at_99) (pc' := 100) rfl rfl ?_
    refine W_iconst B (hb hby at_100) (pc' := 101) rfl (z := (1 : Int32)) (by decide) ?_
    refine W_iloadN B (hb hby at_101) (pc' := 102) rfl rfl ?_
    refine W_iastore B (hb hby at_102) (pc' := 103) rfl (i := 0) rfl (by decide) (oLt rfl) (ds' := [(b113, oA .int [(.int a1), (.int a2), o0, o0]), (b112, oA .int [o0, (.int (1 : Int32))])]) rfl ?_
    intro T B
    refine W_dup B (hb hby at_103) (pc' := 104) rfl rfl ?_
    refine W_iconst B (hb hby at_104) (pc' := 105) rfl (z := (2 : Int32)) (by decide) ?_
    refine W_iloadN B (hb hby at_105) (pc' := 106) rfl rfl ?_
    refine W_iastore B (hb hby at_106) (pc' := 107) rfl (i := 0) rfl (by decide) (oLt rfl) (ds' := [(b113, oA .int [(.int a1), (.int a2), (.int a3), o0]), (b112, oA .int [o0, (.int (1 : Int32))])]) rfl ?_
    intro T B
    refine W_dup B (hb hby at_107) (pc' := 108) rfl rfl ?_
    refine W_iconst B (hb hby at_108) (pc' := 109) rfl (z := (3 : Int32)) (by decide) ?_
    refine W_iloadN B (hb hby at_109) (pc' := 110) rfl rfl ?_
    refine W_iastore B (hb hby at_110) (pc' := 111) rfl (i := 0) rfl (by decide) (oLt rfl) (ds' := [(b113, oA .int [(.int a1), (.int a2), (.int a3), (.int a4)]), (b112, oA .int [o0, (.int (1 : Int32))])]) rfl ?_
    intro T B
    refine W_astore B (hb hby at_111) (pc' := 113) rfl rfl (ls' := #[.val (.int a1), .val (.int a2), .val (.int a3), .val (.int a4), .val (.int a5), .val (.int a6), .val (.int (0 : Int32)), .val (.int (2 : Int32)), .val (.int z108), .val (.int z110), .val (.ref b112), .val (.ref b113), .unset, .unset, .unset, .unset, .unset, .unset, .unset, .unset, .unset]) rfl ?_
    refine W_iload B (hb hby at_113) (pc' := 115) rfl rfl ?_
    refine W_iload B (hb hby at_115) (pc' := 117) rfl rfl ?_
    refine W_imul B (hb hby at_117) (pc' := 118) rfl (z := (0 : Int32)) (by decide) ?_
    refine W_istore B (hb hby at_118) (pc' := 120) rfl (v := (0 : Int32)) rfl (ls' := #[.val (.int a1), .val (.int a2), .val (.int a3), .val (.int a4), .val (.int a5), .val (.int a6), .val (.int (0 : Int32)), .val (.int (2 : Int32)), .val (.int z108), .val (.int z110), .val (.ref b112), .val (.ref b113), .val (.int (0 : Int32)), .unset, .unset, .unset, .unset, .unset, .unset, .unset, .unset]) rfl ?_
    refine W_iload B (hb hby at_120) (pc' := 122) rfl rfl ?_
    refine W_iconst B (hb hby at_122) (pc' := 123) rfl (z := (1 : Int32)) (by decide) ?_
    refine W_icmpN B (hb hby at_123) (pc' := 126) rfl (by decide) ?_
    refine W_aload B (hb hby at_126) (pc' := 128) rfl rfl rfl ?_
    refine W_iload B (hb hby at_128) (pc' := 130) rfl rfl ?_
    refine W_iaload B (hb hby at_130) (pc' := 131) rfl (i := 0) rfl (by decide) (v := (.int a1)) rfl ?_
    refine W_goto B (hb hby at_131) (by decide) (pc' := 135) (by decide) ?_
    refine W_istore B (hb hby at_135) (pc' := 137) rfl (v := a1) rfl (ls' := #[.val (.int a1), .val (.int a2), .val (.int a3), .val (.int a4), .val (.int a5), .val (.int a6), .val (.int (0 : Int32)), .val (.int (2 : Int32)), .val (.int z108), .val (.int z110), .val (.ref b112), .val (.ref b113), .val (.int (0 : Int32)), .val (.int a1), .unset, .unset, .unset, .unset, .unset, .unset, .unset]) rfl ?_
    refine W_iload B (hb hby at_137) (pc' := 139) rfl rfl ?_
    refine W_iconst B (hb hby at_139) (pc' := 140) rfl (z := (2 : Int32)) (by decide) ?_
    refine W_icmpN B (hb hby at_140) (pc' := 143) rfl (by decide) ?_
    refine W_aload B (hb hby at_143) (pc' := 145) rfl rfl rfl ?_
    refine W_iload B (hb hby at_145) (pc' := 147) rfl rfl ?_
    refine W_iconst B (hb hby at_147) (pc' := 148) rfl (z := (1 : Int32)) (by decide) ?_
    refine W_iadd B (hb hby at_148) (pc' := 149) rfl (z := (1 : Int32)) (by decide) ?_
    refine W_iaload B (hb hby at_149) (pc' := 150) rfl (i := 0) rfl (by decide) (v := (.int a2)) rfl ?_
    refine W_goto B (hb hby at_150) (by decide) (pc' := 154) (by decide) ?_
    refine W_istore B (hb hby at_154) (pc' := 156) rfl (v := a2) rfl (ls' := #[.val (.int a1), .val (.int a2), .val (.int a3), .val (.int a4), .val (.int a5), .val (.int a6), .val (.int (0 : Int32)), .val (.int (2 : Int32)), .val (.int z108), .val (.int z110), .val (.ref b112), .val (.ref b113), .val (.int (0 : Int32)), .val (.int a1), .val (.int a2), .unset, .unset, .unset, .unset, .unset, .unset]) rfl ?_
    refine oJoin B (fun z114 : Int32 => True) (fun z114 => (mkF m 168 #[.val (.int a1), .val (.int a2), .val (.int a3), .val (.int a4), .val (.int a5), .val (.int a6), .val (.int (0 : Int32)), .val (.int (2 : Int32)), .val (.int z108), .val (.int z110), .val (.ref b112), .val (.ref b113), .val (.int (0 : Int32)), .val (.int a1), .val (.int a2), .unset, .unset, .unset, .unset, .unset, .unset] [(.int z114)])) ?_ ?_
    · intro kJ
      refine W_iload B (hb hby at_156) (pc' := 158) rfl rfl ?_
      refine W_if_eq B (hb hby at_158) (by decide) (pt := 166) (by decide) (pc' := 161) rfl (fun (c115 : z108 = (0 : Int32)) => ?_) (fun (c115 : ¬ z108 = (0 : Int32)) => ?_)
      · refine W_iload B (hb hby at_166) (pc' := 168) rfl rfl ?_
        exact kJ _ _ (trivial) B
      refine W_iload B (hb hby at_161) (pc' := 163) rfl rfl ?_
      refine W_goto B (hb hby at_163) (by decide) (pc' := 168) (by decide) ?_
      exact kJ _ _ (trivial) B
    intro z114 T hz114 B
    refine W_istore B (hb hby at_168) (pc' := 170) rfl (v := z114) rfl (ls' := #[.val (.int a1), .val (.int a2), .val (.int a3), .val (.int a4), .val (.int a5), .val (.int a6), .val (.int (0 : Int32)), .val (.int (2 : Int32)), .val (.int z108), .val (.int z110), .val (.ref b112), .val (.ref b113), .val (.int (0 : Int32)), .val (.int a1), .val (.int a2), .val (.int z114), .unset, .unset, .unset, .unset, .unset]) rfl ?_
    refine oJoin B (fun z116 : Int32 => True) (fun z116 => (mkF m 187 #[.val (.int a1), .val (.int a2), .val (.int a3), .val (.int a4), .val (.int a5), .val (.int a6), .val (.int (0 : Int32)), .val (.int (2 : Int32)), .val (.int z108), .val (.int z110), .val (.ref b112), .val (.ref b113), .val (.int (0 : Int32)), .val (.int a1), .val (.int a2), .val (.int z114), .unset, .unset, .unset, .unset, .unset] [(.int z116)])) ?_ ?_
    · intro kJ
      refine W_iload B (hb hby at_170) (pc' := 172) rfl rfl ?_
      refine W_if_eq B (hb hby at_172) (by decide) (pt := 180) (by decide) (pc' := 175) rfl (fun (c117 : z110 = (0 : Int32)) => ?_) (fun (c117 : ¬ z110 = (0 : Int32)) => ?_)
      · refine W_iload B (hb hby at_180) (pc' := 182) rfl rfl ?_
        refine W_iload B (hb hby at_182) (pc' := 184) rfl rfl ?_
        refine W_iconst B (hb hby at_184) (pc' := 185) rfl (z := (5 : Int32)) (by decide) ?_
        refine W_ishr B (hb hby at_185) (pc' := 186) rfl (z := (a6 >>> ((5 : Int32) &&& 31))) rfl ?_
        refine W_ixor B (hb hby at_186) (pc' := 187) rfl (z := (a5 ^^^ (a6 >>> ((5 : Int32) &&& 31)))) rfl ?_
        exact kJ _ _ (trivial) B
      refine W_iload B (hb hby at_175) (pc' := 177) rfl rfl ?_
      refine W_goto B (hb hby at_177) (by decide) (pc' := 187) (by decide) ?_
      exact kJ _ _ (trivial) B
    intro z116 T hz116 B
    refine W_istore B (hb hby at_187) (pc' := 189) rfl (v := z116) rfl (ls' := #[.val (.int a1), .val (.int a2), .val (.int a3), .val (.int a4), .val (.int a5), .val (.int a6), .val (.int (0 : Int32)), .val (.int (2 : Int32)), .val (.int z108), .val (.int z110), .val (.ref b112), .val (.ref b113), .val (.int (0 : Int32)), .val (.int a1), .val (.int a2), .val (.int z114), .val (.int z116), .unset, .unset, .unset, .unset]) rfl ?_
    refine W_iconst B (hb hby at_189) (pc' := 190) rfl (z := (2 : Int32)) (by decide) ?_
    refine W_newarray B (ow hw (i := 0) rfl) (hb hby at_190) (pc' := 192) rfl (by decide) (cap := 2) (by decide) (by decide) (cells' := 3) rfl (slots' := 8) rfl (vs := [(.int (0 : Int32)), (.int (0 : Int32))]) rfl (ty := .int) rfl ?_
    intro T b118 B
    refine W_dup B (hb hby at_192) (pc' := 193) rfl rfl ?_
    refine W_iconst B (hb hby at_193) (pc' := 194) rfl (z := (0 : Int32)) (by decide) ?_
    refine W_iload B (hb hby at_194) (pc' := 196) rfl rfl ?_
    refine W_iastore B (hb hby at_196) (pc' := 197) rfl (i := 0) rfl (by decide) (oLt rfl) (ds' := [(b118, oA .int [(.int z114), o0]), (b113, oA .int [(.int a1), (.int a2), (.int a3), (.int a4)]), (b112, oA .int [o0, (.int (1 : Int32))])]) rfl ?_
    intro T B
    refine W_dup B (hb hby at_197) (pc' := 198) rfl rfl ?_
    refine W_iconst B (hb hby at_198) (pc' := 199) rfl (z := (1 : Int32)) (by decide) ?_
    refine W_iload B (hb hby at_199) (pc' := 201) rfl rfl ?_
    refine W_iastore B (hb hby at_201) (pc' := 202) rfl (i := 0) rfl (by decide) (oLt rfl) (ds' := [(b118, oA .int [(.int z114), (.int z116)]), (b113, oA .int [(.int a1), (.int a2), (.int a3), (.int a4)]), (b112, oA .int [o0, (.int (1 : Int32))])]) rfl ?_
    intro T B
    refine W_astore B (hb hby at_202) (pc' := 204) rfl rfl (ls' := #[.val (.int a1), .val (.int a2), .val (.int a3), .val (.int a4), .val (.int a5), .val (.int a6), .val (.int (0 : Int32)), .val (.int (2 : Int32)), .val (.int z108), .val (.int z110), .val (.ref b112), .val (.ref b113), .val (.int (0 : Int32)), .val (.int a1), .val (.int a2), .val (.int z114), .val (.int z116), .val (.ref b118), .unset, .unset, .unset]) rfl ?_
    refine W_new B hown (ow hw (i := 1) rfl) (ow hw (i := 2) rfl) (ow hw (i := 3) rfl) (hb hby at_204) (pc' := 207) rfl (by decide) (cells' := 4) rfl (slots' := 19) rfl (fs := [(fk14, .null), (fk15, (.int (0 : Int32))), (fk16, .null), (fk17, .null), (fk18, (.int (0 : Int32))), (fk19, .null), (fk20, .null), (fk21, .null), (fk22, .null), (fk23, .null), (fk24, .null)]) (oAll_cons ⟨Or.inl (ow hw (i := 76) rfl), (.object "com/example/tanglemark/tanglemark/datalog/FactoredRows$Stretch"), by decide, rfl⟩ (oAll_cons ⟨Or.inr (ow hw (i := 78) rfl), .int, by decide, rfl⟩ (oAll_cons ⟨Or.inr (ow hw (i := 80) rfl), (.array .int), by decide, rfl⟩ (oAll_cons ⟨Or.inr (ow hw (i := 82) rfl), (.array .int), by decide, rfl⟩ (oAll_cons ⟨Or.inr (ow hw (i := 84) rfl), .int, by decide, rfl⟩ (oAll_cons ⟨Or.inr (ow hw (i := 86) rfl), (.array .int), by decide, rfl⟩ (oAll_cons ⟨Or.inr (ow hw (i := 88) rfl), (.array .int), by decide, rfl⟩ (oAll_cons ⟨Or.inr (ow hw (i := 90) rfl), (.object "com/example/tanglemark/tanglemark/datalog/SharedSets"), by decide, rfl⟩ (oAll_cons ⟨Or.inr (ow hw (i := 92) rfl), (.array .int), by decide, rfl⟩ (oAll_cons ⟨Or.inr (ow hw (i := 94) rfl), (.array .int), by decide, rfl⟩ (oAll_cons ⟨Or.inr (ow hw (i := 97) rfl), (.array .int), by decide, rfl⟩ oAll_nil))))))))))) (by decide) ?_
    intro T b119 B
    refine W_dup B (hb hby at_207) (pc' := 208) rfl rfl ?_
    refine W_iconst B (hb hby at_208) (pc' := 209) rfl (z := (3 : Int32)) (by decide) ?_
    refine W_aload B (hb hby at_209) (pc' := 211) rfl rfl rfl ?_
    refine W_aload B (hb hby at_211) (pc' := 213) rfl rfl rfl ?_
    refine W_bipush B (hb hby at_213) (pc' := 215) rfl (z := (6 : Int32)) (by decide) ?_
    refine W_newarray B (ow hw (i := 0) rfl) (hb hby at_215) (pc' := 217) rfl (by decide) (cap := 6) (by decide) (by decide) (cells' := 5) rfl (slots' := 25) rfl (vs := [(.int (0 : Int32)), (.int (0 : Int32)), (.int (0 : Int32)), (.int (0 : Int32)), (.int (0 : Int32)), (.int (0 : Int32))]) rfl (ty := .int) rfl ?_
    intro T b120 B
    refine W_new B hown (ow hw (i := 4) rfl) (ow hw (i := 5) rfl) (ow hw (i := 6) rfl) (hb hby at_217) (pc' := 220) rfl (by decide) (cells' := 6) rfl (slots' := 32) rfl (fs := [(fk3, .null), (fk4, .null), (fk5, .null), (fk6, .null), (fk7, .null), (fk8, .null), (fk9, .null)]) (oAll_cons ⟨Or.inr (ow hw (i := 43) rfl), (.object "com/example/tanglemark/tanglemark/datalog/Ints"), by decide, rfl⟩ (oAll_cons ⟨Or.inr (ow hw (i := 45) rfl), (.object "com/example/tanglemark/tanglemark/datalog/Ints"), by decide, rfl⟩ (oAll_cons ⟨Or.inr (ow hw (i := 47) rfl), (.object "com/example/tanglemark/tanglemark/datalog/Ints"), by decide, rfl⟩ (oAll_cons ⟨Or.inr (ow hw (i := 49) rfl), (.object "com/example/tanglemark/tanglemark/datalog/Ints"), by decide, rfl⟩ (oAll_cons ⟨Or.inr (ow hw (i := 51) rfl), (.object "com/example/tanglemark/tanglemark/datalog/Ints"), by decide, rfl⟩ (oAll_cons ⟨Or.inr (ow hw (i := 53) rfl), (.object "com/example/tanglemark/tanglemark/datalog/Ints"), by decide, rfl⟩ (oAll_cons ⟨Or.inr (ow hw (i := 55) rfl), (.object "com/example/tanglemark/tanglemark/datalog/Ints"), by decide, rfl⟩ oAll_nil))))))) (by decide) ?_
    intro T b121 B
    refine W_dup B (hb hby at_220) (pc' := 221) rfl rfl ?_
    refine W_ldcStr B hS (n := 4) hown (ow hw (i := 7) rfl) (own_strAtoms hw) (hb hby at_221) (pc' := 223) rfl (by decide) (by decide) (cells' := 8) rfl (slots' := 40) rfl ?_
    intro T sa122 vm_ lo B hS hown
    refine W_init B (y := (⟨"com/example/tanglemark/tanglemark/datalog/SharedSets", "<init>", "(Ljava/lang/String;)V"⟩ : MethodName)) hown rfl (ow hw (i := 15) rfl) (ow hw (i := 16) rfl) (ow hw (i := 6) rfl) (ow hw (i := 17) rfl) (by decide) (a := b121) (rm_sets l Z a0 hw h0 b121 sa122 [(b120, oA .int [o0, o0, o0, o0, o0, o0]), (b119, oO cn3 [(fk14, .null), (fk15, (.int (0 : Int32))), (fk16, .null), (fk17, .null), (fk18, (.int (0 : Int32))), (fk19, .null), (fk20, .null), (fk21, .null), (fk22, .null), (fk23, .null), (fk24, .null)]), (b118, oA .int [(.int z114), (.int z116)]), (b113, oA .int [(.int a1), (.int a2), (.int a3), (.int a4)]), (b112, oA .int [o0, (.int (1 : Int32))])]) (lenOf pd_2 rfl) (hb hby at_223) (pc' := 226) rfl (argsL := [(.ref sa122)]) (rest := [(.ref b121), (.ref b120), (.ref b113), (.ref b112), (.int (3 : Int32)), (.ref b119), (.ref b119)]) rfl (by rw [hml]; rfl) (W := 7) (oLe rfl) (by decide) (cells' := 22) rfl (slots' := 180) rfl ?_
    intro T v_ d_ q_ B
    obtain ⟨e123, e124, e125, e126, e127, e128, e129, e130, e131, e132, e133, e134, e135, e136, e137, rfl, rfl⟩ := q_
    show oWin p e below Z h0 _ _ (T.setTop (mkF m 226 #[.val (.int a1), .val (.int a2), .val (.int a3), .val (.int a4), .val (.int a5), .val (.int a6), .val (.int (0 : Int32)), .val (.int (2 : Int32)), .val (.int z108), .val (.int z110), .val (.ref b112), .val (.ref b113), .val (.int (0 : Int32)), .val (.int a1), .val (.int a2), .val (.int z114), .val (.int z116), .val (.ref b118), .unset, .unset, .unset] [(.ref b121), (.ref b120), (.ref b113), (.ref b112), (.int (3 : Int32)), (.ref b119), (.ref b119)]))
    refine W_iconst B (hb hby at_226) (pc' := 227) rfl (z := (2 : Int32)) (by decide) ?_
    refine W_newarray B (ow hw (i := 0) rfl) (hb hby at_227) (pc' := 229) rfl (by decide) (cap := 2) (by decide) (by decide) (cells' := 23) rfl (slots' := 182) rfl (vs := [(.int (0 : Int32)), (.int (0 : Int32))]) rfl (ty := .int) rfl ?_
    intro T b138 B
    refine W_dup B (hb hby at_229) (pc' := 230) rfl rfl ?_
    refine W_iconst B (hb hby at_230) (pc' := 231) rfl (z := (0 : Int32)) (by decide) ?_
    refine W_iconst B (hb hby at_231) (pc' := 232) rfl (z := (0 : Int32)) (by decide) ?_
    refine W_iastore B (hb hby at_232) (pc' := 233) rfl (i := 0) rfl (by decide) (oLt rfl) (ds' := [(b138, oA .int [o0, o0]), e123, e124, e125, e126, e127, e128, e129, e130, e131, e132, e133, e134, e135, e136, e137, (b120, oA .int [o0, o0, o0, o0, o0, o0]), (b119, oO cn3 [(fk14, .null), (fk15, (.int (0 : Int32))), (fk16, .null), (fk17, .null), (fk18, (.int (0 : Int32))), (fk19, .null), (fk20, .null), (fk21, .null), (fk22, .null), (fk23, .null), (fk24, .null)]), (b118, oA .int [(.int z114), (.int z116)]), (b113, oA .int [(.int a1), (.int a2), (.int a3), (.int a4)]), (b112, oA .int [o0, (.int (1 : Int32))])]) rfl ?_
    intro T B
    refine W_dup B (hb hby at_233) (pc' := 234) rfl rfl ?_
    refine W_iconst B (hb hby at_234) (pc' := 235) rfl (z := (1 : Int32)) (by decide) ?_
    refine W_iconst B (hb hby at_235) (pc' := 236) rfl (z := (0 : Int32)) (by decide) ?_
    refine W_iastore B (hb hby at_236) (pc' := 237) rfl (i := 0) rfl (by decide) (oLt rfl) (ds' := [(b138, oA .int [o0, o0]), e123, e124, e125, e126, e127, e128, e129, e130, e131, e132, e133, e134, e135, e136, e137, (b120, oA .int [o0, o0, o0, o0, o0, o0]), (b119, oO cn3 [(fk14, .null), (fk15, (.int (0 : Int32))), (fk16, .null), (fk17, .null), (fk18, (.int (0 : Int32))), (fk19, .null), (fk20, .null), (fk21, .null), (fk22, .null), (fk23, .null), (fk24, .null)]), (b118, oA .int [(.int z114), (.int z116)]), (b113, oA .int [(.int a1), (.int a2), (.int a3), (.int a4)]), (b112, oA .int [o0, (.int (1 : Int32))])]) rfl ?_
    intro T B
    refine W_iconst B (hb hby at_237) (pc' := 238) rfl (z := (3 : Int32)) (by decide) ?_
    refine W_newarray B (ow hw (i := 0) rfl) (hb hby at_238) (pc' := 240) rfl (by decide) (cap := 3) (by decide) (by decide) (cells' := 24) rfl (slots' := 185) rfl (vs := [(.int (0 : Int32)), (.int (0 : Int32)), (.int (0 : Int32))]) rfl (ty := .int) rfl ?_
    intro T b139 B
    refine W_dup B (hb hby at_240) (pc' := 241) rfl rfl ?_
    refine W_iconst B (hb hby at_241) (pc' := 242) rfl (z := (0 : Int32)) (by decide) ?_
    refine W_iconst B (hb hby at_242) (pc' := 243) rfl (z := (0 : Int32)) (by decide) ?_
    refine W_iastore B (hb hby at_243) (pc' := 244) rfl (i := 0) rfl (by decide) (oLt rfl) (ds' := [(b139, oA .int [o0, o0, o0]), (b138, oA .int [o0, o0]), e123, e124, e125, e126, e127, e128, e129, e130, e131, e132, e133, e134, e135, e136, e137, (b120, oA .int [o0, o0, o0, o0, o0, o0]), (b119, oO cn3 [(fk14, .null), (fk15, (.int (0 : Int32))), (fk16, .null), (fk17, .null), (fk18, (.int (0 : Int32))), (fk19, .null), (fk20, .null), (fk21, .null), (fk22, .null), (fk23, .null), (fk24, .null)]), (b118, oA .int [(.int z114), (.int z116)]), (b113, oA .int [(.int a1), (.int a2), (.int a3), (.int a4)]), (b112, oA .int [o0, (.int (1 : Int32))])]) rfl ?_
    intro T B
    refine W_dup B (hb hby at_244) (pc' := 245) rfl rfl ?_
    refine W_iconst B (hb hby at_245) (pc' := 246) rfl (z := (1 : Int32)) (by decide) ?_
    refine W_iconst B (hb hby at_246) (pc' := 247) rfl (z := (1 : Int32)) (by decide) ?_
    refine W_iastore B (hb hby at_247) (pc' := 248) rfl (i := 0) rfl (by decide) (oLt rfl) (ds' := [(b139, oA .int [o0, (.int (1 : Int32)), o0]), (b138, oA .int [o0, o0]), e123, e124, e125, e126, e127, e128, e129, e130, e131, e132, e133, e134, e135, e136, e137, (b120, oA .int [o0, o0, o0, o0, o0, o0]), (b119, oO cn3 [(fk14, .null), (fk15, (.int (0 : Int32))), (fk16, .null), (fk17, .null), (fk18, (.int (0 : Int32))), (fk19, .null), (fk20, .null), (fk21, .null), (fk22, .null), (fk23, .null), (fk24, .null)]), (b118, oA .int [(.int z114), (.int z116)]), (b113, oA .int [(.int a1), (.int a2), (.int a3), (.int a4)]), (b112, oA .int [o0, (.int (1 : Int32))])]) rfl ?_
    intro T B
    refine W_dup B (hb hby at_248) (pc' := 249) rfl rfl ?_
    refine W_iconst B (hb hby at_249) (pc' := 250) rfl (z := (2 : Int32)) (by decide) ?_
    refine W_iconst B (hb hby at_250) (pc' := 251) rfl (z := (2 : Int32)) (by decide) ?_
    refine W_iastore B (hb hby at_251) (pc' := 252) rfl (i := 0) rfl (by decide) (oLt rfl) (ds' := [(b139, oA .int [o0, (.int (1 : Int32)), (.int (2 : Int32))]), (b138, oA .int [o0, o0]), e123, e124, e125, e126, e127, e128, e129, e130, e131, e132, e133, e134, e135, e136, e137, (b120, oA .int [o0, o0, o0, o0, o0, o0]), (b119, oO cn3 [(fk14, .null), (fk15, (.int (0 : Int32))), (fk16, .null), (fk17, .null), (fk18, (.int (0 : Int32))), (fk19, .null), (fk20, .null), (fk21, .null), (fk22, .null), (fk23, .null), (fk24, .null)]), (b118, oA .int [(.int z114), (.int z116)]), (b113, oA .int [(.int a1), (.int a2), (.int a3), (.int a4)]), (b112, oA .int [o0, (.int (1 : Int32))])]) rfl ?_
    intro T B
    refine W_init B (y := (⟨"com/example/tanglemark/tanglemark/datalog/FactoredRows", "<init>", "(I[I[I[ILcom/example/tanglemark/tanglemark/datalog/SharedSets;[I[I)V"⟩ : MethodName)) hown rfl (ow hw (i := 56) rfl) (ow hw (i := 57) rfl) (ow hw (i := 3) rfl) (ow hw (i := 58) rfl) (by decide) (a := b119) (rm_fr2 l Z a0 hw h0 b119 b112 b113 b120 b121 b138 b139 e123 e124 e125 e126 e127 e128 e129 e130 e131 e132 e133 e134 e135 e136 e137 (b120, oA .int [o0, o0, o0, o0, o0, o0]) (b118, oA .int [(.int z114), (.int z116)]) (b113, oA .int [(.int a1), (.int a2), (.int a3), (.int a4)]) []) (lenOf pd_4 rfl) (hb hby at_252) (pc' := 255) rfl (argsL := [(.int (3 : Int32)), (.ref b112), (.ref b113), (.ref b120), (.ref b121), (.ref b138), (.ref b139)]) (rest := [(.ref b119)]) rfl (by rw [hml]; rfl) (W := 1) (oLe rfl) (by decide) (cells' := 27) rfl (slots' := 194) rfl ?_
    intro T v_ d_ q_ B
    obtain ⟨b140, b141, b142, rfl, rfl⟩ := q_
    show oWin p e below Z h0 _ _ (T.setTop (mkF m 255 #[.val (.int a1), .val (.int a2), .val (.int a3), .val (.int a4), .val (.int a5), .val (.int a6), .val (.int (0 : Int32)), .val (.int (2 : Int32)), .val (.int z108), .val (.int z110), .val (.ref b112), .val (.ref b113), .val (.int (0 : Int32)), .val (.int a1), .val (.int a2), .val (.int z114), .val (.int z116), .val (.ref b118), .unset, .unset, .unset] [(.ref b119)]))
    refine W_astore B (hb hby at_255) (pc' := 257) rfl rfl (ls' := #[.val (.int a1), .val (.int a2), .val (.int a3), .val (.int a4), .val (.int a5), .val (.int a6), .val (.int (0 : Int32)), .val (.int (2 : Int32)), .val (.int z108), .val (.int z110), .val (.ref b112), .val (.ref b113), .val (.int (0 : Int32)), .val (.int a1), .val (.int a2), .val (.int z114), .val (.int z116), .val (.ref b118), .val (.ref b119), .unset, .unset]) rfl ?_
    refine W_aload B (hb hby at_257) (pc' := 259) rfl rfl rfl ?_
    refine W_iload B (hb hby at_259) (pc' := 261) rfl rfl ?_
    refine W_aload B (hb hby at_261) (pc' := 263) rfl rfl rfl ?_
    refine W_virtual B (y := (⟨"com/example/tanglemark/tanglemark/datalog/FactoredRows", "keyHas", "(I[I)Z"⟩ : MethodName)) (z := (⟨"com/example/tanglemark/tanglemark/datalog/FactoredRows", "keyHas", "(I[I)Z"⟩ : MethodName)) hown (ow hw (i := 98) rfl) (ow hw (i := 99) rfl) (oNotFace B (ow hw (i := 101) rfl) rfl) (ow hw (i := 101) rfl) (ow hw (i := 100) rfl) (ow hw (i := 3) rfl) (ow hw (i := 102) rfl) (by decide) (a := b119) (rm_kh20 l Z a0 hw h0 b119 b118 b112 b113 b120 b121 b138 b139 b140 b141 b142 a1 a2 a3 a4 z114 z116 (b140, oA .int [o0, (.int (1 : Int32))]) (b141, oA .int [o0, (.int (1 : Int32)), (.int (-1 : Int32))]) (b142, oO cn2 [(fk10, (.int (0 : Int32))), (fk11, (.int (0 : Int32))), (fk12, (.int (0 : Int32))), (fk13, (.int (0 : Int32)))]) (b139, oA .int [o0, (.int (1 : Int32)), (.int (2 : Int32))]) (b138, oA .int [o0, o0]) e123 e124 e125 e126 e127 e128 e129 e130 e131 e132 e133 e134 e135 e136 e137 (b120, oA .int [o0, o0, o0, o0, o0, o0]) []) (lenOf pd_5 rfl) (hb hby at_263) (pc' := 266) rfl (argsL := [(.int (0 : Int32)), (.ref b118)]) (rest := []) rfl (by rw [hml]; rfl) (W := 0) (oLe rfl) (j := 21) rfl (by decide) (cells' := 27) rfl (slots' := 194) rfl ?_
    intro T v_ d_ q_ B
    rcases q_ with ⟨q143, q144, rfl, rfl⟩ | ⟨q145, q146, rfl, rfl⟩ | ⟨q147, rfl, rfl⟩
    · show oWin p e below Z h0 _ _ (T.setTop (mkF m 266 #[.val (.int a1), .val (.int a2), .val (.int a3), .val (.int a4), .val (.int a5), .val (.int a6), .val (.int (0 : Int32)), .val (.int (2 : Int32)), .val (.int z108), .val (.int z110), .val (.ref b112), .val (.ref b113), .val (.int (0 : Int32)), .val (.int a1), .val (.int a2), .val (.int z114), .val (.int z116), .val (.ref b118), .val (.ref b119), .unset, .unset] [(.int (1 : Int32))]))
      refine W_istore B (hb hby at_266) (pc' := 268) rfl (v := (1 : Int32)) rfl (ls' := #[.val (.int a1), .val (.int a2), .val (.int a3), .val (.int a4), .val (.int a5), .val (.int a6), .val (.int (0 : Int32)), .val (.int (2 : Int32)), .val (.int z108), .val (.int z110), .val (.ref b112), .val (.ref b113), .val (.int (0 : Int32)), .val (.int a1), .val (.int a2), .val (.int z114), .val (.int z116), .val (.ref b118), .val (.ref b119), .val (.int (1 : Int32)), .unset]) rfl ?_
      refine W_iload B (hb hby at_268) (pc' := 270) rfl rfl ?_
      refine W_ifY B (hb hby at_270) (by decide) (pc' := 279) (by decide) (by decide) ?_
      refine W_iload B (hb hby at_279) (pc' := 281) rfl rfl ?_
      refine W_iconst B (hb hby at_281) (pc' := 282) rfl (z := (1 : Int32)) (by decide) ?_
      refine W_icmpY B (hb hby at_282) (by decide) (pc' := 302) (by decide) (by decide) ?_
      refine W_iload B (hb hby at_302) (pc' := 304) rfl rfl ?_
      refine W_iload B (hb hby at_304) (pc' := 306) rfl rfl ?_
      refine W_icmp_ne B (hb hby at_306) (by decide) (pt := 320) (by decide) (pc' := 309) rfl (fun (c148 : ¬ z114 = a1) => ?_) (fun (c148 : z114 = a1) => ?_)
      · refine W_iconst B (hb hby at_320) (pc' := 321) rfl (z := (0 : Int32)) (by decide) ?_
        refine W_istore B (hb hby at_321) (pc' := 323) rfl (v := (0 : Int32)) rfl (ls' := #[.val (.int a1), .val (.int a2), .val (.int a3), .val (.int a4), .val (.int a5), .val (.int a6), .val (.int (0 : Int32)), .val (.int (2 : Int32)), .val (.int z108), .val (.int z110), .val (.ref b112), .val (.ref b113), .val (.int (0 : Int32)), .val (.int a1), .val (.int a2), .val (.int z114), .val (.int z116), .val (.ref b118), .val (.ref b119), .val (.int (1 : Int32)), .val (.int (0 : Int32))]) rfl ?_
        refine W_iload B (hb hby at_323) (pc' := 325) rfl rfl ?_
        refine W_iload B (hb hby at_325) (pc' := 327) rfl rfl ?_
        refine W_icmpY B (hb hby at_327) (by decide) (pc' := 334) (by decide) (by decide) ?_
        refine W_iconst B (hb hby at_334) (pc' := 335) rfl (z := (0 : Int32)) (by decide) ?_
        refine W_retNW B hS hret (by simp) (hb hby at_335) (by decide) ?_
        exfalso
        have fq1 := orI a1
        have fq2 := orI z114
        have fq3 := oeqI q143
        have fq4 := orI a2
        have fq5 := orI z116
        have fq6 := oeqI q144
        have fq7 := oneI c148
        omega
      refine W_iload B (hb hby at_309) (pc' := 311) rfl rfl ?_
      refine W_iload B (hb hby at_311) (pc' := 313) rfl rfl ?_
      refine W_icmp_ne B (hb hby at_313) (by decide) (pt := 320) (by decide) (pc' := 316) rfl (fun (c149 : ¬ z116 = a2) => ?_) (fun (c149 : z116 = a2) => ?_)
      · refine W_iconst B (hb hby at_320) (pc' := 321) rfl (z := (0 : Int32)) (by decide) ?_
        refine W_istore B (hb hby at_321) (pc' := 323) rfl (v := (0 : Int32)) rfl (ls' := #[.val (.int a1), .val (.int a2), .val (.int a3), .val (.int a4), .val (.int a5), .val (.int a6), .val (.int (0 : Int32)), .val (.int (2 : Int32)), .val (.int z108), .val (.int z110), .val (.ref b112), .val (.ref b113), .val (.int (0 : Int32)), .val (.int a1), .val (.int a2), .val (.int z114), .val (.int z116), .val (.ref b118), .val (.ref b119), .val (.int (1 : Int32)), .val (.int (0 : Int32))]) rfl ?_
        refine W_iload B (hb hby at_323) (pc' := 325) rfl rfl ?_
        refine W_iload B (hb hby at_325) (pc' := 327) rfl rfl ?_
        refine W_icmpY B (hb hby at_327) (by decide) (pc' := 334) (by decide) (by decide) ?_
        refine W_iconst B (hb hby at_334) (pc' := 335) rfl (z := (0 : Int32)) (by decide) ?_
        refine W_retNW B hS hret (by simp) (hb hby at_335) (by decide) ?_
        exfalso
        have fq1 := orI a1
        have fq2 := orI z114
        have fq3 := oeqI q143
        have fq4 := orI a2
        have fq5 := orI z116
        have fq6 := oeqI q144
        have fq7 := oeqI c148
        have fq8 := oneI c149
        omega
      refine W_iconst B (hb hby at_316) (pc' := 317) rfl (z := (1 : Int32)) (by decide) ?_
      refine W_goto B (hb hby at_317) (by decide) (pc' := 321) (by decide) ?_
      refine W_istore B (hb hby at_321) (pc' := 323) rfl (v := (1 : Int32)) rfl (ls' := #[.val (.int a1), .val (.int a2), .val (.int a3), .val (.int a4), .val (.int a5), .val (.int a6), .val (.int (0 : Int32)), .val (.int (2 : Int32)), .val (.int z108), .val (.int z110), .val (.ref b112), .val (.ref b113), .val (.int (0 : Int32)), .val (.int a1), .val (.int a2), .val (.int z114), .val (.int z116), .val (.ref b118), .val (.ref b119), .val (.int (1 : Int32)), .val (.int (1 : Int32))]) rfl ?_
      refine W_iload B (hb hby at_323) (pc' := 325) rfl rfl ?_
      refine W_iload B (hb hby at_325) (pc' := 327) rfl rfl ?_
      refine W_icmpN B (hb hby at_327) (pc' := 330) rfl (by decide) ?_
      refine W_iconst B (hb hby at_330) (pc' := 331) rfl (z := (1 : Int32)) (by decide) ?_
      refine W_goto B (hb hby at_331) (by decide) (pc' := 335) (by decide) ?_
      refine W_retNW B hS hret (by simp) (hb hby at_335) (by decide) ?_
      rfl
    · show oWin p e below Z h0 _ _ (T.setTop (mkF m 266 #[.val (.int a1), .val (.int a2), .val (.int a3), .val (.int a4), .val (.int a5), .val (.int a6), .val (.int (0 : Int32)), .val (.int (2 : Int32)), .val (.int z108), .val (.int z110), .val (.ref b112), .val (.ref b113), .val (.int (0 : Int32)), .val (.int a1), .val (.int a2), .val (.int z114), .val (.int z116), .val (.ref b118), .val (.ref b119), .unset, .unset] [(.int (0 : Int32))]))
      refine W_istore B (hb hby at_266) (pc' := 268) rfl (v := (0 : Int32)) rfl (ls' := #[.val (.int a1), .val (.int a2), .val (.int a3), .val (.int a4), .val (.int a5), .val (.int a6), .val (.int (0 : Int32)), .val (.int (2 : Int32)), .val (.int z108), .val (.int z110), .val (.ref b112), .val (.ref b113), .val (.int (0 : Int32)), .val (.int a1), .val (.int a2), .val (.int z114), .val (.int z116), .val (.ref b118), .val (.ref b119), .val (.int (0 : Int32)), .unset]) rfl ?_
      refine W_iload B (hb hby at_268) (pc' := 270) rfl rfl ?_
      refine W_ifY B (hb hby at_270) (by decide) (pc' := 279) (by decide) (by decide) ?_
      refine W_iload B (hb hby at_279) (pc' := 281) rfl rfl ?_
      refine W_iconst B (hb hby at_281) (pc' := 282) rfl (z := (1 : Int32)) (by decide) ?_
      refine W_icmpY B (hb hby at_282) (by decide) (pc' := 302) (by decide) (by decide) ?_
      refine W_iload B (hb hby at_302) (pc' := 304) rfl rfl ?_
      refine W_iload B (hb hby at_304) (pc' := 306) rfl rfl ?_
      refine W_icmp_ne B (hb hby at_306) (by decide) (pt := 320) (by decide) (pc' := 309) rfl (fun (c150 : ¬ z114 = a1) => ?_) (fun (c150 : z114 = a1) => ?_)
      · refine W_iconst B (hb hby at_320) (pc' := 321) rfl (z := (0 : Int32)) (by decide) ?_
        refine W_istore B (hb hby at_321) (pc' := 323) rfl (v := (0 : Int32)) rfl (ls' := #[.val (.int a1), .val (.int a2), .val (.int a3), .val (.int a4), .val (.int a5), .val (.int a6), .val (.int (0 : Int32)), .val (.int (2 : Int32)), .val (.int z108), .val (.int z110), .val (.ref b112), .val (.ref b113), .val (.int (0 : Int32)), .val (.int a1), .val (.int a2), .val (.int z114), .val (.int z116), .val (.ref b118), .val (.ref b119), .val (.int (0 : Int32)), .val (.int (0 : Int32))]) rfl ?_
        refine W_iload B (hb hby at_323) (pc' := 325) rfl rfl ?_
        refine W_iload B (hb hby at_325) (pc' := 327) rfl rfl ?_
        refine W_icmpN B (hb hby at_327) (pc' := 330) rfl (by decide) ?_
        refine W_iconst B (hb hby at_330) (pc' := 331) rfl (z := (1 : Int32)) (by decide) ?_
        refine W_goto B (hb hby at_331) (by decide) (pc' := 335) (by decide) ?_
        refine W_retNW B hS hret (by simp) (hb hby at_335) (by decide) ?_
        rfl
      refine W_iload B (hb hby at_309) (pc' := 311) rfl rfl ?_
      refine W_iload B (hb hby at_311) (pc' := 313) rfl rfl ?_
      refine W_icmp_ne B (hb hby at_313) (by decide) (pt := 320) (by decide) (pc' := 316) rfl (fun (c151 : ¬ z116 = a2) => ?_) (fun (c151 : z116 = a2) => ?_)
      · refine W_iconst B (hb hby at_320) (pc' := 321) rfl (z := (0 : Int32)) (by decide) ?_
        refine W_istore B (hb hby at_321) (pc' := 323) rfl (v := (0 : Int32)) rfl (ls' := #[.val (.int a1), .val (.int a2), .val (.int a3), .val (.int a4), .val (.int a5), .val (.int a6), .val (.int (0 : Int32)), .val (.int (2 : Int32)), .val (.int z108), .val (.int z110), .val (.ref b112), .val (.ref b113), .val (.int (0 : Int32)), .val (.int a1), .val (.int a2), .val (.int z114), .val (.int z116), .val (.ref b118), .val (.ref b119), .val (.int (0 : Int32)), .val (.int (0 : Int32))]) rfl ?_
        refine W_iload B (hb hby at_323) (pc' := 325) rfl rfl ?_
        refine W_iload B (hb hby at_325) (pc' := 327) rfl rfl ?_
        refine W_icmpN B (hb hby at_327) (pc' := 330) rfl (by decide) ?_
        refine W_iconst B (hb hby at_330) (pc' := 331) rfl (z := (1 : Int32)) (by decide) ?_
        refine W_goto B (hb hby at_331) (by decide) (pc' := 335) (by decide) ?_
        refine W_retNW B hS hret (by simp) (hb hby at_335) (by decide) ?_
        rfl
      refine W_iconst B (hb hby at_316) (pc' := 317) rfl (z := (1 : Int32)) (by decide) ?_
      refine W_goto B (hb hby at_317) (by decide) (pc' := 321) (by decide) ?_
      refine W_istore B (hb hby at_321) (pc' := 323) rfl (v := (1 : Int32)) rfl (ls' := #[.val (.int a1), .val (.int a2), .val (.int a3), .val (.int a4), .val (.int a5), .val (.int a6), .val (.int (0 : Int32)), .val (.int (2 : Int32)), .val (.int z108), .val (.int z110), .val (.ref b112), .val (.ref b113), .val (.int (0 : Int32)), .val (.int a1), .val (.int a2), .val (.int z114), .val (.int z116), .val (.ref b118), .val (.ref b119), .val (.int (0 : Int32)), .val (.int (1 : Int32))]) rfl ?_
      refine W_iload B (hb hby at_323) (pc' := 325) rfl rfl ?_
      refine W_iload B (hb hby at_325) (pc' := 327) rfl rfl ?_
      refine W_icmpY B (hb hby at_327) (by decide) (pc' := 334) (by decide) (by decide) ?_
      refine W_iconst B (hb hby at_334) (pc' := 335) rfl (z := (0 : Int32)) (by decide) ?_
      refine W_retNW B hS hret (by simp) (hb hby at_335) (by decide) ?_
      exfalso
      have fq1 := orI a1
      have fq2 := orI z114
      have fq3 := oeqI q145
      have fq4 := orI a2
      have fq5 := orI z116
      have fq6 := oneI q146
      have fq7 := oeqI c150
      have fq8 := oeqI c151
      omega
    show oWin p e below Z h0 _ _ (T.setTop (mkF m 266 #[.val (.int a1), .val (.int a2), .val (.int a3), .val (.int a4), .val (.int a5), .val (.int a6), .val (.int (0 : Int32)), .val (.int (2 : Int32)), .val (.int z108), .val (.int z110), .val (.ref b112), .val (.ref b113), .val (.int (0 : Int32)), .val (.int a1), .val (.int a2), .val (.int z114), .val (.int z116), .val (.ref b118), .val (.ref b119), .unset, .unset] [(.int (0 : Int32))]))
    refine W_istore B (hb hby at_266) (pc' := 268) rfl (v := (0 : Int32)) rfl (ls' := #[.val (.int a1), .val (.int a2), .val (.int a3), .val (.int a4), .val (.int a5), .val (.int a6), .val (.int (0 : Int32)), .val (.int (2 : Int32)), .val (.int z108), .val (.int z110), .val (.ref b112), .val (.ref b113), .val (.int (0 : Int32)), .val (.int a1), .val (.int a2), .val (.int z114), .val (.int z116), .val (.ref b118), .val (.ref b119), .val (.int (0 : Int32)), .unset]) rfl ?_
    refine W_iload B (hb hby at_268) (pc' := 270) rfl rfl ?_
    refine W_ifY B (hb hby at_270) (by decide) (pc' := 279) (by decide) (by decide) ?_
    refine W_iload B (hb hby at_279) (pc' := 281) rfl rfl ?_
    refine W_iconst B (hb hby at_281) (pc' := 282) rfl (z := (1 : Int32)) (by decide) ?_
    refine W_icmpY B (hb hby at_282) (by decide) (pc' := 302) (by decide) (by decide) ?_
    refine W_iload B (hb hby at_302) (pc' := 304) rfl rfl ?_
    refine W_iload B (hb hby at_304) (pc' := 306) rfl rfl ?_
    refine W_icmp_ne B (hb hby at_306) (by decide) (pt := 320) (by decide) (pc' := 309) rfl (fun (c152 : ¬ z114 = a1) => ?_) (fun (c152 : z114 = a1) => ?_)
    · refine W_iconst B (hb hby at_320) (pc' := 321) rfl (z := (0 : Int32)) (by decide) ?_
      refine W_istore B (hb hby at_321) (pc' := 323) rfl (v := (0 : Int32)) rfl (ls' := #[.val (.int a1), .val (.int a2), .val (.int a3), .val (.int a4), .val (.int a5), .val (.int a6), .val (.int (0 : Int32)), .val (.int (2 : Int32)), .val (.int z108), .val (.int z110), .val (.ref b112), .val (.ref b113), .val (.int (0 : Int32)), .val (.int a1), .val (.int a2), .val (.int z114), .val (.int z116), .val (.ref b118), .val (.ref b119), .val (.int (0 : Int32)), .val (.int (0 : Int32))]) rfl ?_
      refine W_iload B (hb hby at_323) (pc' := 325) rfl rfl ?_
      refine W_iload B (hb hby at_325) (pc' := 327) rfl rfl ?_
      refine W_icmpN B (hb hby at_327) (pc' := 330) rfl (by decide) ?_
      refine W_iconst B (hb hby at_330) (pc' := 331) rfl (z := (1 : Int32)) (by decide) ?_
      refine W_goto B (hb hby at_331) (by decide) (pc' := 335) (by decide) ?_
      refine W_retNW B hS hret (by simp) (hb hby at_335) (by decide) ?_
      rfl
    refine W_iload B (hb hby at_309) (pc' := 311) rfl rfl ?_
    refine W_iload B (hb hby at_311) (pc' := 313) rfl rfl ?_
    refine W_icmp_ne B (hb hby at_313) (by decide) (pt := 320) (by decide) (pc' := 316) rfl (fun (c153 : ¬ z116 = a2) => ?_) (fun (c153 : z116 = a2) => ?_)
    · refine W_iconst B (hb hby at_320) (pc' := 321) rfl (z := (0 : Int32)) (by decide) ?_
      refine W_istore B (hb hby at_321) (pc' := 323) rfl (v := (0 : Int32)) rfl (ls' := #[.val (.int a1), .val (.int a2), .val (.int a3), .val (.int a4), .val (.int a5), .val (.int a6), .val (.int (0 : Int32)), .val (.int (2 : Int32)), .val (.int z108), .val (.int z110), .val (.ref b112), .val (.ref b113), .val (.int (0 : Int32)), .val (.int a1), .val (.int a2), .val (.int z114), .val (.int z116), .val (.ref b118), .val (.ref b119), .val (.int (0 : Int32)), .val (.int (0 : Int32))]) rfl ?_
      refine W_iload B (hb hby at_323) (pc' := 325) rfl rfl ?_
      refine W_iload B (hb hby at_325) (pc' := 327) rfl rfl ?_
      refine W_icmpN B (hb hby at_327) (pc' := 330) rfl (by decide) ?_
      refine W_iconst B (hb hby at_330) (pc' := 331) rfl (z := (1 : Int32)) (by decide) ?_
      refine W_goto B (hb hby at_331) (by decide) (pc' := 335) (by decide) ?_
      refine W_retNW B hS hret (by simp) (hb hby at_335) (by decide) ?_
      rfl
    refine W_iconst B (hb hby at_316) (pc' := 317) rfl (z := (1 : Int32)) (by decide) ?_
    refine W_goto B (hb hby at_317) (by decide) (pc' := 321) (by decide) ?_
    refine W_istore B (hb hby at_321) (pc' := 323) rfl (v := (1 : Int32)) rfl (ls' := #[.val (.int a1), .val (.int a2), .val (.int a3), .val (.int a4), .val (.int a5), .val (.int a6), .val (.int (0 : Int32)), .val (.int (2 : Int32)), .val (.int z108), .val (.int z110), .val (.ref b112), .val (.ref b113), .val (.int (0 : Int32)), .val (.int a1), .val (.int a2), .val (.int z114), .val (.int z116), .val (.ref b118), .val (.ref b119), .val (.int (0 : Int32)), .val (.int (1 : Int32))]) rfl ?_
    refine W_iload B (hb hby at_323) (pc' := 325) rfl rfl ?_
    refine W_iload B (hb hby at_325) (pc' := 327) rfl rfl ?_
    refine W_icmpY B (hb hby at_327) (by decide) (pc' := 334) (by decide) (by decide) ?_
    refine W_iconst B (hb hby at_334) (pc' := 335) rfl (z := (0 : Int32)) (by decide) ?_
    refine W_retNW B hS hret (by simp) (hb hby at_335) (by decide) ?_
    exfalso
    have fq1 := orI a1
    have fq2 := orI z114
    have fq3 := oneI q147
    have fq4 := oeqI c152
    have fq5 := orI z116
    have fq6 := orI a2
    have fq7 := oeqI c153
    omega
  refine W_iload B (hb hby at_6) (pc' := 8) rfl rfl ?_
  refine W_iconst B (hb hby at_8) (pc' := 9) rfl (z := (1 : Int32)) (by decide) ?_
  refine W_iushr B (hb hby at_9) (pc' := 10) rfl (z := ((a6.toUInt32 >>> ((1 : Int32) &&& 31).toUInt32).toInt32)) rfl ?_
  refine W_iconst B (hb hby at_10) (pc' := 11) rfl (z := (3 : Int32)) (by decide) ?_
  refine W_iand B (hb hby at_11) (pc' := 12) rfl (z := (((a6.toUInt32 >>> ((1 : Int32) &&& 31).toUInt32).toInt32) &&& (3 : Int32))) rfl ?_
  refine W_iconst B (hb hby at_12) (pc' := 13) rfl (z := (3 : Int32)) (by decide) ?_
  refine W_irem B (hb hby at_13) (pc' := 14) rfl (by decide) (z := ((((a6.toUInt32 >>> ((1 : Int32) &&& 31).toUInt32).toInt32) &&& (3 : Int32)) % (3 : Int32))) rfl ?_
  obtain ⟨v154, hv154⟩ : ∃ z : Int32, z = ((((a6.toUInt32 >>> ((1 : Int32) &&& 31).toUInt32).toInt32) &&& (3 : Int32)) % (3 : Int32)) := ⟨_, rfl⟩
  refine W_istore B (hb hby at_14) (pc' := 16) rfl (v := v154) hv154.symm (ls' := #[.val (.int a1), .val (.int a2), .val (.int a3), .val (.int a4), .val (.int a5), .val (.int a6), .val (.int (1 : Int32)), .val (.int v154), .unset, .unset, .unset, .unset, .unset, .unset, .unset, .unset, .unset, .unset, .unset, .unset, .unset]) rfl ?_
  rcases own_c3 hv154 with rfl | rfl | rfl
  · refine oJoin B (fun z155 : Int32 => True) (fun z155 => (mkF m 30 #[.val (.int a1), .val (.int a2), .val (.int a3), .val (.int a4), .val (.int a5), .val (.int a6), .val (.int (1 : Int32)), .val (.int (0 : Int32)), .unset, .unset, .unset, .unset, .unset, .unset, .unset, .unset, .unset, .unset, .unset, .unset, .unset] [(.int z155)])) ?_ ?_
    · intro kJ
      refine W_iload B (hb hby at_16) (pc' := 18) rfl rfl ?_
      refine W_iconst B (hb hby at_18) (pc' := 19) rfl (z := (3 : Int32)) (by decide) ?_
      refine W_iushr B (hb hby at_19) (pc' := 20) rfl (z := ((a6.toUInt32 >>> ((3 : Int32) &&& 31).toUInt32).toInt32)) rfl ?_
      refine W_iconst B (hb hby at_20) (pc' := 21) rfl (z := (1 : Int32)) (by decide) ?_
      refine W_iand B (hb hby at_21) (pc' := 22) rfl (z := (((a6.toUInt32 >>> ((3 : Int32) &&& 31).toUInt32).toInt32) &&& (1 : Int32))) rfl ?_
      refine W_if_eq B (hb hby at_22) (by decide) (pt := 29) (by decide) (pc' := 25) rfl (fun (c156 : (((a6.toUInt32 >>> ((3 : Int32) &&& 31).toUInt32).toInt32) &&& (1 : Int32)) = (0 : Int32)) => ?_) (fun (c156 : ¬ (((a6.toUInt32 >>> ((3 : Int32) &&& 31).toUInt32).toInt32) &&& (1 : Int32)) = (0 : Int32)) => ?_)
      · refine W_iconst B (hb hby at_29) (pc' := 30) rfl (z := (0 : Int32)) (by decide) ?_
        exact kJ _ _ (trivial) B
      refine W_iconst B (hb hby at_25) (pc' := 26) rfl (z := (1 : Int32)) (by decide) ?_
      refine W_goto B (hb hby at_26) (by decide) (pc' := 30) (by decide) ?_
      exact kJ _ _ (trivial) B
    intro z155 T hz155 B
    refine W_istore B (hb hby at_30) (pc' := 32) rfl (v := z155) rfl (ls' := #[.val (.int a1), .val (.int a2), .val (.int a3), .val (.int a4), .val (.int a5), .val (.int a6), .val (.int (1 : Int32)), .val (.int (0 : Int32)), .val (.int z155), .unset, .unset, .unset, .unset, .unset, .unset, .unset, .unset, .unset, .unset, .unset, .unset]) rfl ?_
    refine oJoin B (fun z157 : Int32 => True) (fun z157 => (mkF m 46 #[.val (.int a1), .val (.int a2), .val (.int a3), .val (.int a4), .val (.int a5), .val (.int a6), .val (.int (1 : Int32)), .val (.int (0 : Int32)), .val (.int z155), .unset, .unset, .unset, .unset, .unset, .unset, .unset, .unset, .unset, .unset, .unset, .unset] [(.int z157)])) ?_ ?_
    · intro kJ
      refine W_iload B (hb hby at_32) (pc' := 34) rfl rfl ?_
      refine W_iconst B (hb hby at_34) (pc' := 35) rfl (z := (4 : Int32)) (by decide) ?_
      refine W_iushr B (hb hby at_35) (pc' := 36) rfl (z := ((a6.toUInt32 >>> ((4 : Int32) &&& 31).toUInt32).toInt32)) rfl ?_
      refine W_iconst B (hb hby at_36) (pc' := 37) rfl (z := (1 : Int32)) (by decide) ?_
      refine W_iand B (hb hby at_37) (pc' := 38) rfl (z := (((a6.toUInt32 >>> ((4 : Int32) &&& 31).toUInt32).toInt32) &&& (1 : Int32))) rfl ?_
      refine W_if_eq B (hb hby at_38) (by decide) (pt := 45) (by decide) (pc' := 41) rfl (fun (c158 : (((a6.toUInt32 >>> ((4 : Int32) &&& 31).toUInt32).toInt32) &&& (1 : Int32)) = (0 : Int32)) => ?_) (fun (c158 : ¬ (((a6.toUInt32 >>> ((4 : Int32) &&& 31).toUInt32).toInt32) &&& (1 : Int32)) = (0 : Int32)) => ?_)
      · refine W_iconst B (hb hby at_45) (pc' := 46) rfl (z := (0 : Int32)) (by decide) ?_
        exact kJ _ _ (trivial) B
      refine W_iconst B (hb hby at_41) (pc' := 42) rfl (z := (1 : Int32)) (by decide) ?_
      refine W_goto B (hb hby at_42) (by decide) (pc' := 46) (by decide) ?_
      exact kJ _ _ (trivial) B
    intro z157 T hz157 B
    refine W_istore B (hb hby at_46) (pc' := 48) rfl (v := z157) rfl (ls' := #[.val (.int a1), .val (.int a2), .val (.int a3), .val (.int a4), .val (.int a5), .val (.int a6), .val (.int (1 : Int32)), .val (.int (0 : Int32)), .val (.int z155), .val (.int z157), .unset, .unset, .unset, .unset, .unset, .unset, .unset, .unset, .unset, .unset, .unset]) rfl ?_
    refine W_iload B (hb hby at_48) (pc' := 50) rfl rfl ?_
    refine W_ifN B (hb hby at_50) (pc' := 53) rfl (by decide) ?_
    refine W_iconst B (hb hby at_53) (pc' := 54) rfl (z := (0 : Int32)) (by decide) ?_
    refine W_newarray B (ow hw (i := 0) rfl) (hb hby at_54) (pc' := 56) rfl (by decide) (cap := 0) (by decide) (by decide) (cells' := 1) rfl (slots' := 0) rfl (vs := []) rfl (ty := .int) rfl ?_
    intro T b159 B
    refine W_astore B (hb hby at_56) (pc' := 58) rfl rfl (ls' := #[.val (.int a1), .val (.int a2), .val (.int a3), .val (.int a4), .val (.int a5), .val (.int a6), .val (.int (1 : Int32)), .val (.int (0 : Int32)), .val (.int z155), .val (.int z157), .val (.ref b159), .unset, .unset, .unset, .unset, .unset, .unset, .unset, .unset, .unset, .unset]) rfl ?_
    refine W_goto B (hb hby at_58) (by decide) (pc' := 92) (by decide) ?_
    refine W_iconst B (hb hby at_92) (pc' := 93) rfl (z := (4 : Int32)) (by decide) ?_
    refine W_newarray B (ow hw (i := 0) rfl) (hb hby at_93) (pc' := 95) rfl (by decide) (cap := 4) (by decide) (by decide) (cells' := 2) rfl (slots' := 4) rfl (vs := [(.int (0 : Int32)), (.int (0 : Int32)), (.int (0 : Int32)), (.int (0 : Int32))]) rfl (ty := .int) rfl ?_
    intro T b160 B
    refine W_dup B (hb hby at_95) (pc' := 96) rfl rfl ?_
    refine W_iconst B (hb hby at_96) (pc' := 97) rfl (z := (0 : Int32)) (by decide) ?_
    refine W_iloadN B (hb hby at_97) (pc' := 98) rfl rfl ?_
    refine W_iastore B (hb hby at_98) (pc' := 99) rfl (i := 0) rfl (by decide) (oLt rfl) (ds' := [(b160, oA .int [(.int a1), o0, o0, o0]), (b159, oA .int [])]) rfl ?_
    intro T B
    refine W_dup B (hb hby at_99) (pc' := 100) rfl rfl ?_
    refine W_iconst B (hb hby at_100) (pc' := 101) rfl (z := (1 : Int32)) (by decide) ?_
    refine W_iloadN B (hb hby at_101) (pc' := 102) rfl rfl ?_
    refine W_iastore B (hb hby at_102) (pc' := 103) rfl (i := 0) rfl (by decide) (oLt rfl) (ds' := [(b160, oA .int [(.int a1), (.int a2), o0, o0]), (b159, oA .int [])]) rfl ?_
    intro T B
    refine W_dup B (hb hby at_103) (pc' := 104) rfl rfl ?_
    refine W_iconst B (hb hby at_104) (pc' := 105) rfl (z := (2 : Int32)) (by decide) ?_
    refine W_iloadN B (hb hby at_105) (pc' := 106) rfl rfl ?_
    refine W_iastore B (hb hby at_106) (pc' := 107) rfl (i := 0) rfl (by decide) (oLt rfl) (ds' := [(b160, oA .int [(.int a1), (.int a2), (.int a3), o0]), (b159, oA .int [])]) rfl ?_
    intro T B
    refine W_dup B (hb hby at_107) (pc' := 108) rfl rfl ?_
    refine W_iconst B (hb hby at_108) (pc' := 109) rfl (z := (3 : Int32)) (by decide) ?_
    refine W_iloadN B (hb hby at_109) (pc' := 110) rfl rfl ?_
    refine W_iastore B (hb hby at_110) (pc' := 111) rfl (i := 0) rfl (by decide) (oLt rfl) (ds' := [(b160, oA .int [(.int a1), (.int a2), (.int a3), (.int a4)]), (b159, oA .int [])]) rfl ?_
    intro T B
    refine W_astore B (hb hby at_111) (pc' := 113) rfl rfl (ls' := #[.val (.int a1), .val (.int a2), .val (.int a3), .val (.int a4), .val (.int a5), .val (.int a6), .val (.int (1 : Int32)), .val (.int (0 : Int32)), .val (.int z155), .val (.int z157), .val (.ref b159), .val (.ref b160), .unset, .unset, .unset, .unset, .unset, .unset, .unset, .unset, .unset]) rfl ?_
    refine W_iload B (hb hby at_113) (pc' := 115) rfl rfl ?_
    refine W_iload B (hb hby at_115) (pc' := 117) rfl rfl ?_
    refine W_imul B (hb hby at_117) (pc' := 118) rfl (z := (0 : Int32)) (by decide) ?_
    refine W_istore B (hb hby at_118) (pc' := 120) rfl (v := (0 : Int32)) rfl (ls' := #[.val (.int a1), .val (.int a2), .val (.int a3), .val (.int a4), .val (.int a5), .val (.int a6), .val (.int (1 : Int32)), .val (.int (0 : Int32)), .val (.int z155), .val (.int z157), .val (.ref b159), .val (.ref b160), .val (.int (0 : Int32)), .unset, .unset, .unset, .unset, .unset, .unset, .unset, .unset]) rfl ?_
    refine W_iload B (hb hby at_120) (pc' := 122) rfl rfl ?_
    refine W_iconst B (hb hby at_122) (pc' := 123) rfl (z := (1 : Int32)) (by decide) ?_
    refine W_icmpY B (hb hby at_123) (by decide) (pc' := 134) (by decide) (by decide) ?_
    refine W_iconst B (hb hby at_134) (pc' := 135) rfl (z := (0 : Int32)) (by decide) ?_
    refine W_istore B (hb hby at_135) (pc' := 137) rfl (v := (0 : Int32)) rfl (ls' := #[.val (.int a1), .val (.int a2), .val (.int a3), .val (.int a4), .val (.int a5), .val (.int a6), .val (.int (1 : Int32)), .val (.int (0 : Int32)), .val (.int z155), .val (.int z157), .val (.ref b159), .val (.ref b160), .val (.int (0 : Int32)), .val (.int (0 : Int32)), .unset, .unset, .unset, .unset, .unset, .unset, .unset]) rfl ?_
    refine W_iload B (hb hby at_137) (pc' := 139) rfl rfl ?_
    refine W_iconst B (hb hby at_139) (pc' := 140) rfl (z := (2 : Int32)) (by decide) ?_
    refine W_icmpY B (hb hby at_140) (by decide) (pc' := 153) (by decide) (by decide) ?_
    refine W_iconst B (hb hby at_153) (pc' := 154) rfl (z := (0 : Int32)) (by decide) ?_
    refine W_istore B (hb hby at_154) (pc' := 156) rfl (v := (0 : Int32)) rfl (ls' := #[.val (.int a1), .val (.int a2), .val (.int a3), .val (.int a4), .val (.int a5), .val (.int a6), .val (.int (1 : Int32)), .val (.int (0 : Int32)), .val (.int z155), .val (.int z157), .val (.ref b159), .val (.ref b160), .val (.int (0 : Int32)), .val (.int (0 : Int32)), .val (.int (0 : Int32)), .unset, .unset, .unset, .unset, .unset, .unset]) rfl ?_
    refine oJoin B (fun z161 : Int32 => True) (fun z161 => (mkF m 168 #[.val (.int a1), .val (.int a2), .val (.int a3), .val (.int a4), .val (.int a5), .val (.int a6), .val (.int (1 : Int32)), .val (.int (0 : Int32)), .val (.int z155), .val (.int z157), .val (.ref b159), .val (.ref b160), .val (.int (0 : Int32)), .val (.int (0 : Int32)), .val (.int (0 : Int32)), .unset, .unset, .unset, .unset, .unset, .unset] [(.int z161)])) ?_ ?_
    · intro kJ
      refine W_iload B (hb hby at_156) (pc' := 158) rfl rfl ?_
      refine W_if_eq B (hb hby at_158) (by decide) (pt := 166) (by decide) (pc' := 161) rfl (fun (c162 : z155 = (0 : Int32)) => ?_) (fun (c162 : ¬ z155 = (0 : Int32)) => ?_)
      · refine W_iload B (hb hby at_166) (pc' := 168) rfl rfl ?_
        exact kJ _ _ (trivial) B
      refine W_iload B (hb hby at_161) (pc' := 163) rfl rfl ?_
      refine W_goto B (hb hby at_163) (by decide) (pc' := 168) (by decide) ?_
      exact kJ _ _ (trivial) B
    intro z161 T hz161 B
    refine W_istore B (hb hby at_168) (pc' := 170) rfl (v := z161) rfl (ls' := #[.val (.int a1), .val (.int a2), .val (.int a3), .val (.int a4), .val (.int a5), .val (.int a6), .val (.int (1 : Int32)), .val (.int (0 : Int32)), .val (.int z155), .val (.int z157), .val (.ref b159), .val (.ref b160), .val (.int (0 : Int32)), .val (.int (0 : Int32)), .val (.int (0 : Int32)), .val (.int z161), .unset, .unset, .unset, .unset, .unset]) rfl ?_
    refine oJoin B (fun z163 : Int32 => True) (fun z163 => (mkF m 187 #[.val (.int a1), .val (.int a2), .val (.int a3), .val (.int a4), .val (.int a5), .val (.int a6), .val (.int (1 : Int32)), .val (.int (0 : Int32)), .val (.int z155), .val (.int z157), .val (.ref b159), .val (.ref b160), .val (.int (0 : Int32)), .val (.int (0 : Int32)), .val (.int (0 : Int32)), .val (.int z161), .unset, .unset, .unset, .unset, .unset] [(.int z163)])) ?_ ?_
    · intro kJ
      refine W_iload B (hb hby at_170) (pc' := 172) rfl rfl ?_
      refine W_if_eq B (hb hby at_172) (by decide) (pt := 180) (by decide) (pc' := 175) rfl (fun (c164 : z157 = (0 : Int32)) => ?_) (fun (c164 : ¬ z157 = (0 : Int32)) => ?_)
      · refine W_iload B (hb hby at_180) (pc' := 182) rfl rfl ?_
        refine W_iload B (hb hby at_182) (pc' := 184) rfl rfl ?_
        refine W_iconst B (hb hby at_184) (pc' := 185) rfl (z := (5 : Int32)) (by decide) ?_
        refine W_ishr B (hb hby at_185) (pc' := 186) rfl (z := (a6 >>> ((5 : Int32) &&& 31))) rfl ?_
        refine W_ixor B (hb hby at_186) (pc' := 187) rfl (z := (a5 ^^^ (a6 >>> ((5 : Int32) &&& 31)))) rfl ?_
        exact kJ _ _ (trivial) B
      refine W_iload B (hb hby at_175) (pc' := 177) rfl rfl ?_
      refine W_goto B (hb hby at_177) (by decide) (pc' := 187) (by decide) ?_
      exact kJ _ _ (trivial) B
    intro z163 T hz163 B
    refine W_istore B (hb hby at_187) (pc' := 189) rfl (v := z163) rfl (ls' := #[.val (.int a1), .val (.int a2), .val (.int a3), .val (.int a4), .val (.int a5), .val (.int a6), .val (.int (1 : Int32)), .val (.int (0 : Int32)), .val (.int z155), .val (.int z157), .val (.ref b159), .val (.ref b160), .val (.int (0 : Int32)), .val (.int (0 : Int32)), .val (.int (0 : Int32)), .val (.int z161), .val (.int z163), .unset, .unset, .unset, .unset]) rfl ?_
    refine W_iconst B (hb hby at_189) (pc' := 190) rfl (z := (2 : Int32)) (by decide) ?_
    refine W_newarray B (ow hw (i := 0) rfl) (hb hby at_190) (pc' := 192) rfl (by decide) (cap := 2) (by decide) (by decide) (cells' := 3) rfl (slots' := 6) rfl (vs := [(.int (0 : Int32)), (.int (0 : Int32))]) rfl (ty := .int) rfl ?_
    intro T b165 B
    refine W_dup B (hb hby at_192) (pc' := 193) rfl rfl ?_
    refine W_iconst B (hb hby at_193) (pc' := 194) rfl (z := (0 : Int32)) (by decide) ?_
    refine W_iload B (hb hby at_194) (pc' := 196) rfl rfl ?_
    refine W_iastore B (hb hby at_196) (pc' := 197) rfl (i := 0) rfl (by decide) (oLt rfl) (ds' := [(b165, oA .int [(.int z161), o0]), (b160, oA .int [(.int a1), (.int a2), (.int a3), (.int a4)]), (b159, oA .int [])]) rfl ?_
    intro T B
    refine W_dup B (hb hby at_197) (pc' := 198) rfl rfl ?_
    refine W_iconst B (hb hby at_198) (pc' := 199) rfl (z := (1 : Int32)) (by decide) ?_
    refine W_iload B (hb hby at_199) (pc' := 201) rfl rfl ?_
    refine W_iastore B (hb hby at_201) (pc' := 202) rfl (i := 0) rfl (by decide) (oLt rfl) (ds' := [(b165, oA .int [(.int z161), (.int z163)]), (b160, oA .int [(.int a1), (.int a2), (.int a3), (.int a4)]), (b159, oA .int [])]) rfl ?_
    intro T B
    refine W_astore B (hb hby at_202) (pc' := 204) rfl rfl (ls' := #[.val (.int a1), .val (.int a2), .val (.int a3), .val (.int a4), .val (.int a5), .val (.int a6), .val (.int (1 : Int32)), .val (.int (0 : Int32)), .val (.int z155), .val (.int z157), .val (.ref b159), .val (.ref b160), .val (.int (0 : Int32)), .val (.int (0 : Int32)), .val (.int (0 : Int32)), .val (.int z161), .val (.int z163), .val (.ref b165), .unset, .unset, .unset]) rfl ?_
    refine W_new B hown (ow hw (i := 1) rfl) (ow hw (i := 2) rfl) (ow hw (i := 3) rfl) (hb hby at_204) (pc' := 207) rfl (by decide) (cells' := 4) rfl (slots' := 17) rfl (fs := [(fk14, .null), (fk15, (.int (0 : Int32))), (fk16, .null), (fk17, .null), (fk18, (.int (0 : Int32))), (fk19, .null), (fk20, .null), (fk21, .null), (fk22, .null), (fk23, .null), (fk24, .null)]) (oAll_cons ⟨Or.inl (ow hw (i := 76) rfl), (.object "com/example/tanglemark/tanglemark/datalog/FactoredRows$Stretch"), by decide, rfl⟩ (oAll_cons ⟨Or.inr (ow hw (i := 78) rfl), .int, by decide, rfl⟩ (oAll_cons ⟨Or.inr (ow hw (i := 80) rfl), (.array .int), by decide, rfl⟩ (oAll_cons ⟨Or.inr (ow hw (i := 82) rfl), (.array .int), by decide, rfl⟩ (oAll_cons ⟨Or.inr (ow hw (i := 84) rfl), .int, by decide, rfl⟩ (oAll_cons ⟨Or.inr (ow hw (i := 86) rfl), (.array .int), by decide, rfl⟩ (oAll_cons ⟨Or.inr (ow hw (i := 88) rfl), (.array .int), by decide, rfl⟩ (oAll_cons ⟨Or.inr (ow hw (i := 90) rfl), (.object "com/example/tanglemark/tanglemark/datalog/SharedSets"), by decide, rfl⟩ (oAll_cons ⟨Or.inr (ow hw (i := 92) rfl), (.array .int), by decide, rfl⟩ (oAll_cons ⟨Or.inr (ow hw (i := 94) rfl), (.array .int), by decide, rfl⟩ (oAll_cons ⟨Or.inr (ow hw (i := 97) rfl), (.array .int), by decide, rfl⟩ oAll_nil))))))))))) (by decide) ?_
    intro T b166 B
    refine W_dup B (hb hby at_207) (pc' := 208) rfl rfl ?_
    refine W_iconst B (hb hby at_208) (pc' := 209) rfl (z := (3 : Int32)) (by decide) ?_
    refine W_aload B (hb hby at_209) (pc' := 211) rfl rfl rfl ?_
    refine W_aload B (hb hby at_211) (pc' := 213) rfl rfl rfl ?_
    refine W_bipush B (hb hby at_213) (pc' := 215) rfl (z := (6 : Int32)) (by decide) ?_
    refine W_newarray B (ow hw (i := 0) rfl) (hb hby at_215) (pc' := 217) rfl (by decide) (cap := 6) (by decide) (by decide) (cells' := 5) rfl (slots' := 23) rfl (vs := [(.int (0 : Int32)), (.int (0 : Int32)), (.int (0 : Int32)), (.int (0 : Int32)), (.int (0 : Int32)), (.int (0 : Int32))]) rfl (ty := .int) rfl ?_
    intro T b167 B
    refine W_new B hown (ow hw (i := 4) rfl) (ow hw (i := 5) rfl) (ow hw (i := 6) rfl) (hb hby at_217) (pc' := 220) rfl (by decide) (cells' := 6) rfl (slots' := 30) rfl (fs := [(fk3, .null), (fk4, .null), (fk5, .null), (fk6, .null), (fk7, .null), (fk8, .null), (fk9, .null)]) (oAll_cons ⟨Or.inr (ow hw (i := 43) rfl), (.object "com/example/tanglemark/tanglemark/datalog/Ints"), by decide, rfl⟩ (oAll_cons ⟨Or.inr (ow hw (i := 45) rfl), (.object "com/example/tanglemark/tanglemark/datalog/Ints"), by decide, rfl⟩ (oAll_cons ⟨Or.inr (ow hw (i := 47) rfl), (.object "com/example/tanglemark/tanglemark/datalog/Ints"), by decide, rfl⟩ (oAll_cons ⟨Or.inr (ow hw (i := 49) rfl), (.object "com/example/tanglemark/tanglemark/datalog/Ints"), by decide, rfl⟩ (oAll_cons ⟨Or.inr (ow hw (i := 51) rfl), (.object "com/example/tanglemark/tanglemark/datalog/Ints"), by decide, rfl⟩ (oAll_cons ⟨Or.inr (ow hw (i := 53) rfl), (.object "com/example/tanglemark/tanglemark/datalog/Ints"), by decide, rfl⟩ (oAll_cons ⟨Or.inr (ow hw (i := 55) rfl), (.object "com/example/tanglemark/tanglemark/datalog/Ints"), by decide, rfl⟩ oAll_nil))))))) (by decide) ?_
    intro T b168 B
    refine W_dup B (hb hby at_220) (pc' := 221) rfl rfl ?_
    refine W_ldcStr B hS (n := 4) hown (ow hw (i := 7) rfl) (own_strAtoms hw) (hb hby at_221) (pc' := 223) rfl (by decide) (by decide) (cells' := 8) rfl (slots' := 38) rfl ?_
    intro T sa169 vm_ lo B hS hown
    refine W_init B (y := (⟨"com/example/tanglemark/tanglemark/datalog/SharedSets", "<init>", "(Ljava/lang/String;)V"⟩ : MethodName)) hown rfl (ow hw (i := 15) rfl) (ow hw (i := 16) rfl) (ow hw (i := 6) rfl) (ow hw (i := 17) rfl) (by decide) (a := b168) (rm_sets l Z a0 hw h0 b168 sa169 [(b167, oA .int [o0, o0, o0, o0, o0, o0]), (b166, oO cn3 [(fk14, .null), (fk15, (.int (0 : Int32))), (fk16, .null), (fk17, .null), (fk18, (.int (0 : Int32))), (fk19, .null), (fk20, .null), (fk21, .null), (fk22, .null), (fk23, .null), (fk24, .null)]), (b165, oA .int [(.int z161), (.int z163)]), (b160, oA .int [(.int a1), (.int a2), (.int a3), (.int a4)]), (b159, oA .int [])]) (lenOf pd_2 rfl) (hb hby at_223) (pc' := 226) rfl (argsL := [(.ref sa169)]) (rest := [(.ref b168), (.ref b167), (.ref b160), (.ref b159), (.int (3 : Int32)), (.ref b166), (.ref b166)]) rfl (by rw [hml]; rfl) (W := 7) (oLe rfl) (by decide) (cells' := 22) rfl (slots' := 178) rfl ?_
    intro T v_ d_ q_ B
    obtain ⟨e170, e171, e172, e173, e174, e175, e176, e177, e178, e179, e180, e181, e182, e183, e184, rfl, rfl⟩ := q_
    show oWin p e below Z h0 _ _ (T.setTop (mkF m 226 #[.val (.int a1), .val (.int a2), .val (.int a3), .val (.int a4), .val (.int a5), .val (.int a6), .val (.int (1 : Int32)), .val (.int (0 : Int32)), .val (.int z155), .val (.int z157), .val (.ref b159), .val (.ref b160), .val (.int (0 : Int32)), .val (.int (0 : Int32)), .val (.int (0 : Int32)), .val (.int z161), .val (.int z163), .val (.ref b165), .unset, .unset, .unset] [(.ref b168), (.ref b167), (.ref b160), (.ref b159), (.int (3 : Int32)), (.ref b166), (.ref b166)]))
    refine W_iconst B (hb hby at_226) (pc' := 227) rfl (z := (2 : Int32)) (by decide) ?_
    refine W_newarray B (ow hw (i := 0) rfl) (hb hby at_227) (pc' := 229) rfl (by decide) (cap := 2) (by decide) (by decide) (cells' := 23) rfl (slots' := 180) rfl (vs := [(.int (0 : Int32)), (.int (0 : Int32))]) rfl (ty := .int) rfl ?_
    intro T b185 B
    refine W_dup B (hb hby at_229) (pc' := 230) rfl rfl ?_
    refine W_iconst B (hb hby at_230) (pc' := 231) rfl (z := (0 : Int32)) (by decide) ?_
    refine W_iconst B (hb hby at_231) (pc' := 232) rfl (z := (0 : Int32)) (by decide) ?_
    refine W_iastore B (hb hby at_232) (pc' := 233) rfl (i := 0) rfl (by decide) (oLt rfl) (ds' := [(b185, oA .int [o0, o0]), e170, e171, e172, e173, e174, e175, e176, e177, e178, e179, e180, e181, e182, e183, e184, (b167, oA .int [o0, o0, o0, o0, o0, o0]), (b166, oO cn3 [(fk14, .null), (fk15, (.int (0 : Int32))), (fk16, .null), (fk17, .null), (fk18, (.int (0 : Int32))), (fk19, .null), (fk20, .null), (fk21, .null), (fk22, .null), (fk23, .null), (fk24, .null)]), (b165, oA .int [(.int z161), (.int z163)]), (b160, oA .int [(.int a1), (.int a2), (.int a3), (.int a4)]), (b159, oA .int [])]) rfl ?_
    intro T B
    refine W_dup B (hb hby at_233) (pc' := 234) rfl rfl ?_
    refine W_iconst B (hb hby at_234) (pc' := 235) rfl (z := (1 : Int32)) (by decide) ?_
    refine W_iconst B (hb hby at_235) (pc' := 236) rfl (z := (0 : Int32)) (by decide) ?_
    refine W_iastore B (hb hby at_236) (pc' := 237) rfl (i := 0) rfl (by decide) (oLt rfl) (ds' := [(b185, oA .int [o0, o0]), e170, e171, e172, e173, e174, e175, e176, e177, e178, e179, e180, e181, e182, e183, e184, (b167, oA .int [o0, o0, o0, o0, o0, o0]), (b166, oO cn3 [(fk14, .null), (fk15, (.int (0 : Int32))), (fk16, .null), (fk17, .null), (fk18, (.int (0 : Int32))), (fk19, .null), (fk20, .null), (fk21, .null), (fk22, .null), (fk23, .null), (fk24, .null)]), (b165, oA .int [(.int z161), (.int z163)]), (b160, oA .int [(.int a1), (.int a2), (.int a3), (.int a4)]), (b159, oA .int [])]) rfl ?_
    intro T B
    refine W_iconst B (hb hby at_237) (pc' := 238) rfl (z := (3 : Int32)) (by decide) ?_
    refine W_newarray B (ow hw (i := 0) rfl) (hb hby at_238) (pc' := 240) rfl (by decide) (cap := 3) (by decide) (by decide) (cells' := 24) rfl (slots' := 183) rfl (vs := [(.int (0 : Int32)), (.int (0 : Int32)), (.int (0 : Int32))]) rfl (ty := .int) rfl ?_
    intro T b186 B
    refine W_dup B (hb hby at_240) (pc' := 241) rfl rfl ?_
    refine W_iconst B (hb hby at_241) (pc' := 242) rfl (z := (0 : Int32)) (by decide) ?_
    refine W_iconst B (hb hby at_242) (pc' := 243) rfl (z := (0 : Int32)) (by decide) ?_
    refine W_iastore B (hb hby at_243) (pc' := 244) rfl (i := 0) rfl (by decide) (oLt rfl) (ds' := [(b186, oA .int [o0, o0, o0]), (b185, oA .int [o0, o0]), e170, e171, e172, e173, e174, e175, e176, e177, e178, e179, e180, e181, e182, e183, e184, (b167, oA .int [o0, o0, o0, o0, o0, o0]), (b166, oO cn3 [(fk14, .null), (fk15, (.int (0 : Int32))), (fk16, .null), (fk17, .null), (fk18, (.int (0 : Int32))), (fk19, .null), (fk20, .null), (fk21, .null), (fk22, .null), (fk23, .null), (fk24, .null)]), (b165, oA .int [(.int z161), (.int z163)]), (b160, oA .int [(.int a1), (.int a2), (.int a3), (.int a4)]), (b159, oA .int [])]) rfl ?_
    intro T B
    refine W_dup B (hb hby at_244) (pc' := 245) rfl rfl ?_
    refine W_iconst B (hb hby at_245) (pc' := 246) rfl (z := (1 : Int32)) (by decide) ?_
    refine W_iconst B (hb hby at_246) (pc' := 247) rfl (z := (1 : Int32)) (by decide) ?_
    refine W_iastore B (hb hby at_247) (pc' := 248) rfl (i := 0) rfl (by decide) (oLt rfl) (ds' := [(b186, oA .int [o0, (.int (1 : Int32)), o0]), (b185, oA .int [o0, o0]), e170, e171, e172, e173, e174, e175, e176, e177, e178, e179, e180, e181, e182, e183, e184, (b167, oA .int [o0, o0, o0, o0, o0, o0]), (b166, oO cn3 [(fk14, .null), (fk15, (.int (0 : Int32))), (fk16, .null), (fk17, .null), (fk18, (.int (0 : Int32))), (fk19, .null), (fk20, .null), (fk21, .null), (fk22, .null), (fk23, .null), (fk24, .null)]), (b165, oA .int [(.int z161), (.int z163)]), (b160, oA .int [(.int a1), (.int a2), (.int a3), (.int a4)]), (b159, oA .int [])]) rfl ?_
    intro T B
    refine W_dup B (hb hby at_248) (pc' := 249) rfl rfl ?_
    refine W_iconst B (hb hby at_249) (pc' := 250) rfl (z := (2 : Int32)) (by decide) ?_
    refine W_iconst B (hb hby at_250) (pc' := 251) rfl (z := (2 : Int32)) (by decide) ?_
    refine W_iastore B (hb hby at_251) (pc' := 252) rfl (i := 0) rfl (by decide) (oLt rfl) (ds' := [(b186, oA .int [o0, (.int (1 : Int32)), (.int (2 : Int32))]), (b185, oA .int [o0, o0]), e170, e171, e172, e173, e174, e175, e176, e177, e178, e179, e180, e181, e182, e183, e184, (b167, oA .int [o0, o0, o0, o0, o0, o0]), (b166, oO cn3 [(fk14, .null), (fk15, (.int (0 : Int32))), (fk16, .null), (fk17, .null), (fk18, (.int (0 : Int32))), (fk19, .null), (fk20, .null), (fk21, .null), (fk22, .null), (fk23, .null), (fk24, .null)]), (b165, oA .int [(.int z161), (.int z163)]), (b160, oA .int [(.int a1), (.int a2), (.int a3), (.int a4)]), (b159, oA .int [])]) rfl ?_
    intro T B
    refine W_init B (y := (⟨"com/example/tanglemark/tanglemark/datalog/FactoredRows", "<init>", "(I[I[I[ILcom/example/tanglemark/tanglemark/datalog/SharedSets;[I[I)V"⟩ : MethodName)) hown rfl (ow hw (i := 56) rfl) (ow hw (i := 57) rfl) (ow hw (i := 3) rfl) (ow hw (i := 58) rfl) (by decide) (a := b166) (rm_fr0 l Z a0 hw h0 b166 b159 b160 b167 b168 b185 b186 e170 e171 e172 e173 e174 e175 e176 e177 e178 e179 e180 e181 e182 e183 e184 (b167, oA .int [o0, o0, o0, o0, o0, o0]) (b165, oA .int [(.int z161), (.int z163)]) (b160, oA .int [(.int a1), (.int a2), (.int a3), (.int a4)]) []) (lenOf pd_4 rfl) (hb hby at_252) (pc' := 255) rfl (argsL := [(.int (3 : Int32)), (.ref b159), (.ref b160), (.ref b167), (.ref b168), (.ref b185), (.ref b186)]) (rest := [(.ref b166)]) rfl (by rw [hml]; rfl) (W := 1) (oLe rfl) (by decide) (cells' := 27) rfl (slots' := 192) rfl ?_
    intro T v_ d_ q_ B
    obtain ⟨b187, b188, b189, rfl, rfl⟩ := q_
    show oWin p e below Z h0 _ _ (T.setTop (mkF m 255 #[.val (.int a1), .val (.int a2), .val (.int a3), .val (.int a4), .val (.int a5), .val (.int a6), .val (.int (1 : Int32)), .val (.int (0 : Int32)), .val (.int z155), .val (.int z157), .val (.ref b159), .val (.ref b160), .val (.int (0 : Int32)), .val (.int (0 : Int32)), .val (.int (0 : Int32)), .val (.int z161), .val (.int z163), .val (.ref b165), .unset, .unset, .unset] [(.ref b166)]))
    refine W_astore B (hb hby at_255) (pc' := 257) rfl rfl (ls' := #[.val (.int a1), .val (.int a2), .val (.int a3), .val (.int a4), .val (.int a5), .val (.int a6), .val (.int (1 : Int32)), .val (.int (0 : Int32)), .val (.int z155), .val (.int z157), .val (.ref b159), .val (.ref b160), .val (.int (0 : Int32)), .val (.int (0 : Int32)), .val (.int (0 : Int32)), .val (.int z161), .val (.int z163), .val (.ref b165), .val (.ref b166), .unset, .unset]) rfl ?_
    refine W_aload B (hb hby at_257) (pc' := 259) rfl rfl rfl ?_
    refine W_iload B (hb hby at_259) (pc' := 261) rfl rfl ?_
    refine W_aload B (hb hby at_261) (pc' := 263) rfl rfl rfl ?_
    refine W_virtual B (y := (⟨"com/example/tanglemark/tanglemark/datalog/FactoredRows", "keyHas", "(I[I)Z"⟩ : MethodName)) (z := (⟨"com/example/tanglemark/tanglemark/datalog/FactoredRows", "keyHas", "(I[I)Z"⟩ : MethodName)) hown (ow hw (i := 98) rfl) (ow hw (i := 99) rfl) (oNotFace B (ow hw (i := 101) rfl) rfl) (ow hw (i := 101) rfl) (ow hw (i := 100) rfl) (ow hw (i := 3) rfl) (ow hw (i := 102) rfl) (by decide) (a := b166) (rm_kh01 l Z a0 hw h0 b166 b165 b159 b160 b167 b168 b185 b186 b187 b188 b189 a1 a2 a3 a4 z161 z163 (b187, oA .int [o0, (.int (1 : Int32))]) (b188, oA .int [(.int (-1 : Int32)), (.int (-2 : Int32)), (.int (-3 : Int32))]) (b189, oO cn2 [(fk10, (.int (0 : Int32))), (fk11, (.int (0 : Int32))), (fk12, (.int (0 : Int32))), (fk13, (.int (0 : Int32)))]) (b186, oA .int [o0, (.int (1 : Int32)), (.int (2 : Int32))]) (b185, oA .int [o0, o0]) e170 e171 e172 e173 e174 e175 e176 e177 e178 e179 e180 e181 e182 e183 e184 (b167, oA .int [o0, o0, o0, o0, o0, o0]) []) (lenOf pd_5 rfl) (hb hby at_263) (pc' := 266) rfl (argsL := [(.int (1 : Int32)), (.ref b165)]) (rest := []) rfl (by rw [hml]; rfl) (W := 0) (oLe rfl) (j := 21) rfl (by decide) (cells' := 27) rfl (slots' := 192) rfl ?_
    intro T v_ d_ q_ B
    obtain ⟨rfl, rfl⟩ := q_
    show oWin p e below Z h0 _ _ (T.setTop (mkF m 266 #[.val (.int a1), .val (.int a2), .val (.int a3), .val (.int a4), .val (.int a5), .val (.int a6), .val (.int (1 : Int32)), .val (.int (0 : Int32)), .val (.int z155), .val (.int z157), .val (.ref b159), .val (.ref b160), .val (.int (0 : Int32)), .val (.int (0 : Int32)), .val (.int (0 : Int32)), .val (.int z161), .val (.int z163), .val (.ref b165), .val (.ref b166), .unset, .unset] [(.int (1 : Int32))]))
    refine W_istore B (hb hby at_266) (pc' := 268) rfl (v := (1 : Int32)) rfl (ls' := #[.val (.int a1), .val (.int a2), .val (.int a3), .val (.int a4), .val (.int a5), .val (.int a6), .val (.int (1 : Int32)), .val (.int (0 : Int32)), .val (.int z155), .val (.int z157), .val (.ref b159), .val (.ref b160), .val (.int (0 : Int32)), .val (.int (0 : Int32)), .val (.int (0 : Int32)), .val (.int z161), .val (.int z163), .val (.ref b165), .val (.ref b166), .val (.int (1 : Int32)), .unset]) rfl ?_
    refine W_iload B (hb hby at_268) (pc' := 270) rfl rfl ?_
    refine W_ifN B (hb hby at_270) (pc' := 273) rfl (by decide) ?_
    refine W_iconst B (hb hby at_273) (pc' := 274) rfl (z := (1 : Int32)) (by decide) ?_
    refine W_istore B (hb hby at_274) (pc' := 276) rfl (v := (1 : Int32)) rfl (ls' := #[.val (.int a1), .val (.int a2), .val (.int a3), .val (.int a4), .val (.int a5), .val (.int a6), .val (.int (1 : Int32)), .val (.int (0 : Int32)), .val (.int z155), .val (.int z157), .val (.ref b159), .val (.ref b160), .val (.int (0 : Int32)), .val (.int (0 : Int32)), .val (.int (0 : Int32)), .val (.int z161), .val (.int z163), .val (.ref b165), .val (.ref b166), .val (.int (1 : Int32)), .val (.int (1 : Int32))]) rfl ?_
    refine W_goto B (hb hby at_276) (by decide) (pc' := 323) (by decide) ?_
    refine W_iload B (hb hby at_323) (pc' := 325) rfl rfl ?_
    refine W_iload B (hb hby at_325) (pc' := 327) rfl rfl ?_
    refine W_icmpN B (hb hby at_327) (pc' := 330) rfl (by decide) ?_
    refine W_iconst B (hb hby at_330) (pc' := 331) rfl (z := (1 : Int32)) (by decide) ?_
    refine W_goto B (hb hby at_331) (by decide) (pc' := 335) (by decide) ?_
    refine W_retNW B hS hret (by simp) (hb hby at_335) (by decide) ?_
    rfl
  · refine oJoin B (fun z190 : Int32 => True) (fun z190 => (mkF m 30 #[.val (.int a1), .val (.int a2), .val (.int a3), .val (.int a4), .val (.int a5), .val (.int a6), .val (.int (1 : Int32)), .val (.int (1 : Int32)), .unset, .unset, .unset, .unset, .unset, .unset, .unset, .unset, .unset, .unset, .unset, .unset, .unset] [(.int z190)])) ?_ ?_
    · intro kJ
      refine W_iload B (hb hby at_16) (pc' := 18) rfl rfl ?_
      refine W_iconst B (hb hby at_18) (pc' := 19) rfl (z := (3 : Int32)) (by decide) ?_
      refine W_iushr B (hb hby at_19) (pc' := 20) rfl (z := ((a6.toUInt32 >>> ((3 : Int32) &&& 31).toUInt32).toInt32)) rfl ?_
      refine W_iconst B (hb hby at_20) (pc' := 21) rfl (z := (1 : Int32)) (by decide) ?_
      refine W_iand B (hb hby at_21) (pc' := 22) rfl (z := (((a6.toUInt32 >>> ((3 : Int32) &&& 31).toUInt32).toInt32) &&& (1 : Int32))) rfl ?_
      refine W_if_eq B (hb hby at_22) (by decide) (pt := 29) (by decide) (pc' := 25) rfl (fun (c191 : (((a6.toUInt32 >>> ((3 : Int32) &&& 31).toUInt32).toInt32) &&& (1 : Int32)) = (0 : Int32)) => ?_) (fun (c191 : ¬ (((a6.toUInt32 >>> ((3 : Int32) &&& 31).toUInt32).toInt32) &&& (1 : Int32)) = (0 : Int32)) => ?_)
      · refine W_iconst B (hb hby at_29) (pc' := 30) rfl (z := (0 : Int32)) (by decide) ?_
        exact kJ _ _ (trivial) B
      refine W_iconst B (hb hby at_25) (pc' := 26) rfl (z := (1 : Int32)) (by decide) ?_
      refine W_goto B (hb hby at_26) (by decide) (pc' := 30) (by decide) ?_
      exact kJ _ _ (trivial) B
    intro z190 T hz190 B
    refine W_istore B (hb hby at_30) (pc' := 32) rfl (v := z190) rfl (ls' := #[.val (.int a1), .val (.int a2), .val (.int a3), .val (.int a4), .val (.int a5), .val (.int a6), .val (.int (1 : Int32)), .val (.int (1 : Int32)), .val (.int z190), .unset, .unset, .unset, .unset, .unset, .unset, .unset, .unset, .unset, .unset, .unset, .unset]) rfl ?_
    refine oJoin B (fun z192 : Int32 => True) (fun z192 => (mkF m 46 #[.val (.int a1), .val (.int a2), .val (.int a3), .val (.int a4), .val (.int a5), .val (.int a6), .val (.int (1 : Int32)), .val (.int (1 : Int32)), .val (.int z190), .unset, .unset, .unset, .unset, .unset, .unset, .unset, .unset, .unset, .unset, .unset, .unset] [(.int z192)])) ?_ ?_
    · intro kJ
      refine W_iload B (hb hby at_32) (pc' := 34) rfl rfl ?_
      refine W_iconst B (hb hby at_34) (pc' := 35) rfl (z := (4 : Int32)) (by decide) ?_
      refine W_iushr B (hb hby at_35) (pc' := 36) rfl (z := ((a6.toUInt32 >>> ((4 : Int32) &&& 31).toUInt32).toInt32)) rfl ?_
      refine W_iconst B (hb hby at_36) (pc' := 37) rfl (z := (1 : Int32)) (by decide) ?_
      refine W_iand B (hb hby at_37) (pc' := 38) rfl (z := (((a6.toUInt32 >>> ((4 : Int32) &&& 31).toUInt32).toInt32) &&& (1 : Int32))) rfl ?_
      refine W_if_eq B (hb hby at_38) (by decide) (pt := 45) (by decide) (pc' := 41) rfl (fun (c193 : (((a6.toUInt32 >>> ((4 : Int32) &&& 31).toUInt32).toInt32) &&& (1 : Int32)) = (0 : Int32)) => ?_) (fun (c193 : ¬ (((a6.toUInt32 >>> ((4 : Int32) &&& 31).toUInt32).toInt32) &&& (1 : Int32)) = (0 : Int32)) => ?_)
      · refine W_iconst B (hb hby at_45) (pc' := 46) rfl (z := (0 : Int32)) (by decide) ?_
        exact kJ _ _ (trivial) B
      refine W_iconst B (hb hby at_41) (pc' := 42) rfl (z := (1 : Int32)) (by decide) ?_
      refine W_goto B (hb hby at_42) (by decide) (pc' := 46) (by decide) ?_
      exact kJ _ _ (trivial) B
    intro z192 T hz192 B
    refine W_istore B (hb hby at_46) (pc' := 48) rfl (v := z192) rfl (ls' := #[.val (.int a1), .val (.int a2), .val (.int a3), .val (.int a4), .val (.int a5), .val (.int a6), .val (.int (1 : Int32)), .val (.int (1 : Int32)), .val (.int z190), .val (.int z192), .unset, .unset, .unset, .unset, .unset, .unset, .unset, .unset, .unset, .unset, .unset]) rfl ?_
    refine W_iload B (hb hby at_48) (pc' := 50) rfl rfl ?_
    refine W_ifY B (hb hby at_50) (by decide) (pc' := 61) (by decide) (by decide) ?_
    refine W_iload B (hb hby at_61) (pc' := 63) rfl rfl ?_
    refine W_iconst B (hb hby at_63) (pc' := 64) rfl (z := (1 : Int32)) (by decide) ?_
    refine W_icmpN B (hb hby at_64) (pc' := 67) rfl (by decide) ?_
    refine W_iconst B (hb hby at_67) (pc' := 68) rfl (z := (1 : Int32)) (by decide) ?_
    refine W_newarray B (ow hw (i := 0) rfl) (hb hby at_68) (pc' := 70) rfl (by decide) (cap := 1) (by decide) (by decide) (cells' := 1) rfl (slots' := 1) rfl (vs := [(.int (0 : Int32))]) rfl (ty := .int) rfl ?_
    intro T b194 B
    refine W_dup B (hb hby at_70) (pc' := 71) rfl rfl ?_
    refine W_iconst B (hb hby at_71) (pc' := 72) rfl (z := (0 : Int32)) (by decide) ?_
    refine W_iconst B (hb hby at_72) (pc' := 73) rfl (z := (0 : Int32)) (by decide) ?_
    refine W_iastore B (hb hby at_73) (pc' := 74) rfl (i := 0) rfl (by decide) (oLt rfl) (ds' := [(b194, oA .int [o0])]) rfl ?_
    intro T B
    refine W_astore B (hb hby at_74) (pc' := 76) rfl rfl (ls' := #[.val (.int a1), .val (.int a2), .val (.int a3), .val (.int a4), .val (.int a5), .val (.int a6), .val (.int (1 : Int32)), .val (.int (1 : Int32)), .val (.int z190), .val (.int z192), .val (.ref b194), .unset, .unset, .unset, .unset, .unset, .unset, .unset, .unset, .unset, .unset]) rfl ?_
    refine W_goto B (hb hby at_76) (by decide) (pc' := 92) (by decide) ?_
    refine W_iconst B (hb hby at_92) (pc' := 93) rfl (z := (4 : Int32)) (by decide) ?_
    refine W_newarray B (ow hw (i := 0) rfl) (hb hby at_93) (pc' := 95) rfl (by decide) (cap := 4) (by decide) (by decide) (cells' := 2) rfl (slots' := 5) rfl (vs := [(.int (0 : Int32)), (.int (0 : Int32)), (.int (0 : Int32)), (.int (0 : Int32))]) rfl (ty := .int) rfl ?_
    intro T b195 B
    refine W_dup B (hb hby at_95) (pc' := 96) rfl rfl ?_
    refine W_iconst B (hb hby at_96) (pc' := 97) rfl (z := (0 : Int32)) (by decide) ?_
    refine W_iloadN B (hb hby at_97) (pc' := 98) rfl rfl ?_
    refine W_iastore B (hb hby at_98) (pc' := 99) rfl (i := 0) rfl (by decide) (oLt rfl) (ds' := [(b195, oA .int [(.int a1), o0, o0, o0]), (b194, oA .int [o0])]) rfl ?_
    intro T B
    refine W_dup B (hb hby at_99) (pc' := 100) rfl rfl ?_
    refine W_iconst B (hb hby at_100) (pc' := 101) rfl (z := (1 : Int32)) (by decide) ?_
    refine W_iloadN B (hb hby at_101) (pc' := 102) rfl rfl ?_
    refine W_iastore B (hb hby at_102) (pc' := 103) rfl (i := 0) rfl (by decide) (oLt rfl) (ds' := [(b195, oA .int [(.int a1), (.int a2), o0, o0]), (b194, oA .int [o0])]) rfl ?_
    intro T B
    refine W_dup B (hb hby at_103) (pc' := 104) rfl rfl ?_
    refine W_iconst B (hb hby at_104) (pc' := 105) rfl (z := (2 : Int32)) (by decide) ?_
    refine W_iloadN B (hb hby at_105) (pc' := 106) rfl rfl ?_
    refine W_iastore B (hb hby at_106) (pc' := 107) rfl (i := 0) rfl (by decide) (oLt rfl) (ds' := [(b195, oA .int [(.int a1), (.int a2), (.int a3), o0]), (b194, oA .int [o0])]) rfl ?_
    intro T B
    refine W_dup B (hb hby at_107) (pc' := 108) rfl rfl ?_
    refine W_iconst B (hb hby at_108) (pc' := 109) rfl (z := (3 : Int32)) (by decide) ?_
    refine W_iloadN B (hb hby at_109) (pc' := 110) rfl rfl ?_
    refine W_iastore B (hb hby at_110) (pc' := 111) rfl (i := 0) rfl (by decide) (oLt rfl) (ds' := [(b195, oA .int [(.int a1), (.int a2), (.int a3), (.int a4)]), (b194, oA .int [o0])]) rfl ?_
    intro T B
    refine W_astore B (hb hby at_111) (pc' := 113) rfl rfl (ls' := #[.val (.int a1), .val (.int a2), .val (.int a3), .val (.int a4), .val (.int a5), .val (.int a6), .val (.int (1 : Int32)), .val (.int (1 : Int32)), .val (.int z190), .val (.int z192), .val (.ref b194), .val (.ref b195), .unset, .unset, .unset, .unset, .unset, .unset, .unset, .unset, .unset]) rfl ?_
    refine W_iload B (hb hby at_113) (pc' := 115) rfl rfl ?_
    refine W_iload B (hb hby at_115) (pc' := 117) rfl rfl ?_
    refine W_imul B (hb hby at_117) (pc' := 118) rfl (z := (1 : Int32)) (by decide) ?_
    refine W_istore B (hb hby at_118) (pc' := 120) rfl (v := (1 : Int32)) rfl (ls' := #[.val (.int a1), .val (.int a2), .val (.int a3), .val (.int a4), .val (.int a5), .val (.int a6), .val (.int (1 : Int32)), .val (.int (1 : Int32)), .val (.int z190), .val (.int z192), .val (.ref b194), .val (.ref b195), .val (.int (1 : Int32)), .unset, .unset, .unset, .unset, .unset, .unset, .unset, .unset]) rfl ?_
    refine W_iload B (hb hby at_120) (pc' := 122) rfl rfl ?_
    refine W_iconst B (hb hby at_122) (pc' := 123) rfl (z := (1 : Int32)) (by decide) ?_
    refine W_icmpN B (hb hby at_123) (pc' := 126) rfl (by decide) ?_
    refine W_aload B (hb hby at_126) (pc' := 128) rfl rfl rfl ?_
    refine W_iload B (hb hby at_128) (pc' := 130) rfl rfl ?_
    refine W_iaload B (hb hby at_130) (pc' := 131) rfl (i := 0) rfl (by decide) (v := (.int a2)) rfl ?_
    refine W_goto B (hb hby at_131) (by decide) (pc' := 135) (by decide) ?_
    refine W_istore B (hb hby at_135) (pc' := 137) rfl (v := a2) rfl (ls' := #[.val (.int a1), .val (.int a2), .val (.int a3), .val (.int a4), .val (.int a5), .val (.int a6), .val (.int (1 : Int32)), .val (.int (1 : Int32)), .val (.int z190), .val (.int z192), .val (.ref b194), .val (.ref b195), .val (.int (1 : Int32)), .val (.int a2), .unset, .unset, .unset, .unset, .unset, .unset, .unset]) rfl ?_
    refine W_iload B (hb hby at_137) (pc' := 139) rfl rfl ?_
    refine W_iconst B (hb hby at_139) (pc' := 140) rfl (z := (2 : Int32)) (by decide) ?_
    refine W_icmpY B (hb hby at_140) (by decide) (pc' := 153) (by decide) (by decide) ?_
    refine W_iconst B (hb hby at_153) (pc' := 154) rfl (z := (0 : Int32)) (by decide) ?_
    refine W_istore B (hb hby at_154) (pc' := 156) rfl (v := (0 : Int32)) rfl (ls' := #[.val (.int a1), .val (.int a2), .val (.int a3), .val (.int a4), .val (.int a5), .val (.int a6), .val (.int (1 : Int32)), .val (.int (1 : Int32)), .val (.int z190), .val (.int z192), .val (.ref b194), .val (.ref b195), .val (.int (1 : Int32)), .val (.int a2), .val (.int (0 : Int32)), .unset, .unset, .unset, .unset, .unset, .unset]) rfl ?_
    refine oJoin B (fun z196 : Int32 => True) (fun z196 => (mkF m 168 #[.val (.int a1), .val (.int a2), .val (.int a3), .val (.int a4), .val (.int a5), .val (.int a6), .val (.int (1 : Int32)), .val (.int (1 : Int32)), .val (.int z190), .val (.int z192), .val (.ref b194), .val (.ref b195), .val (.int (1 : Int32)), .val (.int a2), .val (.int (0 : Int32)), .unset, .unset, .unset, .unset, .unset, .unset] [(.int z196)])) ?_ ?_
    · intro kJ
      refine W_iload B (hb hby at_156) (pc' := 158) rfl rfl ?_
      refine W_if_eq B (hb hby at_158) (by decide) (pt := 166) (by decide) (pc' := 161) rfl (fun (c197 : z190 = (0 : Int32)) => ?_) (fun (c197 : ¬ z190 = (0 : Int32)) => ?_)
      · refine W_iload B (hb hby at_166) (pc' := 168) rfl rfl ?_
        exact kJ _ _ (trivial) B
      refine W_iload B (hb hby at_161) (pc' := 163) rfl rfl ?_
      refine W_goto B (hb hby at_163) (by decide) (pc' := 168) (by decide) ?_
      exact kJ _ _ (trivial) B
    intro z196 T hz196 B
    refine W_istore B (hb hby at_168) (pc' := 170) rfl (v := z196) rfl (ls' := #[.val (.int a1), .val (.int a2), .val (.int a3), .val (.int a4), .val (.int a5), .val (.int a6), .val (.int (1 : Int32)), .val (.int (1 : Int32)), .val (.int z190), .val (.int z192), .val (.ref b194), .val (.ref b195), .val (.int (1 : Int32)), .val (.int a2), .val (.int (0 : Int32)), .val (.int z196), .unset, .unset, .unset, .unset, .unset]) rfl ?_
    refine oJoin B (fun z198 : Int32 => True) (fun z198 => (mkF m 187 #[.val (.int a1), .val (.int a2), .val (.int a3), .val (.int a4), .val (.int a5), .val (.int a6), .val (.int (1 : Int32)), .val (.int (1 : Int32)), .val (.int z190), .val (.int z192), .val (.ref b194), .val (.ref b195), .val (.int (1 : Int32)), .val (.int a2), .val (.int (0 : Int32)), .val (.int z196), .unset, .unset, .unset, .unset, .unset] [(.int z198)])) ?_ ?_
    · intro kJ
      refine W_iload B (hb hby at_170) (pc' := 172) rfl rfl ?_
      refine W_if_eq B (hb hby at_172) (by decide) (pt := 180) (by decide) (pc' := 175) rfl (fun (c199 : z192 = (0 : Int32)) => ?_) (fun (c199 : ¬ z192 = (0 : Int32)) => ?_)
      · refine W_iload B (hb hby at_180) (pc' := 182) rfl rfl ?_
        refine W_iload B (hb hby at_182) (pc' := 184) rfl rfl ?_
        refine W_iconst B (hb hby at_184) (pc' := 185) rfl (z := (5 : Int32)) (by decide) ?_
        refine W_ishr B (hb hby at_185) (pc' := 186) rfl (z := (a6 >>> ((5 : Int32) &&& 31))) rfl ?_
        refine W_ixor B (hb hby at_186) (pc' := 187) rfl (z := (a5 ^^^ (a6 >>> ((5 : Int32) &&& 31)))) rfl ?_
        exact kJ _ _ (trivial) B
      refine W_iload B (hb hby at_175) (pc' := 177) rfl rfl ?_
      refine W_goto B (hb hby at_177) (by decide) (pc' := 187) (by decide) ?_
      exact kJ _ _ (trivial) B
    intro z198 T hz198 B
    refine W_istore B (hb hby at_187) (pc' := 189) rfl (v := z198) rfl (ls' := #[.val (.int a1), .val (.int a2), .val (.int a3), .val (.int a4), .val (.int a5), .val (.int a6), .val (.int (1 : Int32)), .val (.int (1 : Int32)), .val (.int z190), .val (.int z192), .val (.ref b194), .val (.ref b195), .val (.int (1 : Int32)), .val (.int a2), .val (.int (0 : Int32)), .val (.int z196), .val (.int z198), .unset, .unset, .unset, .unset]) rfl ?_
    refine W_iconst B (hb hby at_189) (pc' := 190) rfl (z := (2 : Int32)) (by decide) ?_
    refine W_newarray B (ow hw (i := 0) rfl) (hb hby at_190) (pc' := 192) rfl (by decide) (cap := 2) (by decide) (by decide) (cells' := 3) rfl (slots' := 7) rfl (vs := [(.int (0 : Int32)), (.int (0 : Int32))]) rfl (ty := .int) rfl ?_
    intro T b200 B
    refine W_dup B (hb hby at_192) (pc' := 193) rfl rfl ?_
    refine W_iconst B (hb hby at_193) (pc' := 194) rfl (z := (0 : Int32)) (by decide) ?_
    refine W_iload B (hb hby at_194) (pc' := 196) rfl rfl ?_
    refine W_iastore B (hb hby at_196) (pc' := 197) rfl (i := 0) rfl (by decide) (oLt rfl) (ds' := [(b200, oA .int [(.int z196), o0]), (b195, oA .int [(.int a1), (.int a2), (.int a3), (.int a4)]), (b194, oA .int [o0])]) rfl ?_
    intro T B
    refine W_dup B (hb hby at_197) (pc' := 198) rfl rfl ?_
    refine W_iconst B (hb hby at_198) (pc' := 199) rfl (z := (1 : Int32)) (by decide) ?_
    refine W_iload B (hb hby at_199) (pc' := 201) rfl rfl ?_
    refine W_iastore B (hb hby at_201) (pc' := 202) rfl (i := 0) rfl (by decide) (oLt rfl) (ds' := [(b200, oA .int [(.int z196), (.int z198)]), (b195, oA .int [(.int a1), (.int a2), (.int a3), (.int a4)]), (b194, oA .int [o0])]) rfl ?_
    intro T B
    refine W_astore B (hb hby at_202) (pc' := 204) rfl rfl (ls' := #[.val (.int a1), .val (.int a2), .val (.int a3), .val (.int a4), .val (.int a5), .val (.int a6), .val (.int (1 : Int32)), .val (.int (1 : Int32)), .val (.int z190), .val (.int z192), .val (.ref b194), .val (.ref b195), .val (.int (1 : Int32)), .val (.int a2), .val (.int (0 : Int32)), .val (.int z196), .val (.int z198), .val (.ref b200), .unset, .unset, .unset]) rfl ?_
    refine W_new B hown (ow hw (i := 1) rfl) (ow hw (i := 2) rfl) (ow hw (i := 3) rfl) (hb hby at_204) (pc' := 207) rfl (by decide) (cells' := 4) rfl (slots' := 18) rfl (fs := [(fk14, .null), (fk15, (.int (0 : Int32))), (fk16, .null), (fk17, .null), (fk18, (.int (0 : Int32))), (fk19, .null), (fk20, .null), (fk21, .null), (fk22, .null), (fk23, .null), (fk24, .null)]) (oAll_cons ⟨Or.inl (ow hw (i := 76) rfl), (.object "com/example/tanglemark/tanglemark/datalog/FactoredRows$Stretch"), by decide, rfl⟩ (oAll_cons ⟨Or.inr (ow hw (i := 78) rfl), .int, by decide, rfl⟩ (oAll_cons ⟨Or.inr (ow hw (i := 80) rfl), (.array .int), by decide, rfl⟩ (oAll_cons ⟨Or.inr (ow hw (i := 82) rfl), (.array .int), by decide, rfl⟩ (oAll_cons ⟨Or.inr (ow hw (i := 84) rfl), .int, by decide, rfl⟩ (oAll_cons ⟨Or.inr (ow hw (i := 86) rfl), (.array .int), by decide, rfl⟩ (oAll_cons ⟨Or.inr (ow hw (i := 88) rfl), (.array .int), by decide, rfl⟩ (oAll_cons ⟨Or.inr (ow hw (i := 90) rfl), (.object "com/example/tanglemark/tanglemark/datalog/SharedSets"), by decide, rfl⟩ (oAll_cons ⟨Or.inr (ow hw (i := 92) rfl), (.array .int), by decide, rfl⟩ (oAll_cons ⟨Or.inr (ow hw (i := 94) rfl), (.array .int), by decide, rfl⟩ (oAll_cons ⟨Or.inr (ow hw (i := 97) rfl), (.array .int), by decide, rfl⟩ oAll_nil))))))))))) (by decide) ?_
    intro T b201 B
    refine W_dup B (hb hby at_207) (pc' := 208) rfl rfl ?_
    refine W_iconst B (hb hby at_208) (pc' := 209) rfl (z := (3 : Int32)) (by decide) ?_
    refine W_aload B (hb hby at_209) (pc' := 211) rfl rfl rfl ?_
    refine W_aload B (hb hby at_211) (pc' := 213) rfl rfl rfl ?_
    refine W_bipush B (hb hby at_213) (pc' := 215) rfl (z := (6 : Int32)) (by decide) ?_
    refine W_newarray B (ow hw (i := 0) rfl) (hb hby at_215) (pc' := 217) rfl (by decide) (cap := 6) (by decide) (by decide) (cells' := 5) rfl (slots' := 24) rfl (vs := [(.int (0 : Int32)), (.int (0 : Int32)), (.int (0 : Int32)), (.int (0 : Int32)), (.int (0 : Int32)), (.int (0 : Int32))]) rfl (ty := .int) rfl ?_
    intro T b202 B
    refine W_new B hown (ow hw (i := 4) rfl) (ow hw (i := 5) rfl) (ow hw (i := 6) rfl) (hb hby at_217) (pc' := 220) rfl (by decide) (cells' := 6) rfl (slots' := 31) rfl (fs := [(fk3, .null), (fk4, .null), (fk5, .null), (fk6, .null), (fk7, .null), (fk8, .null), (fk9, .null)]) (oAll_cons ⟨Or.inr (ow hw (i := 43) rfl), (.object "com/example/tanglemark/tanglemark/datalog/Ints"), by decide, rfl⟩ (oAll_cons ⟨Or.inr (ow hw (i := 45) rfl), (.object "com/example/tanglemark/tanglemark/datalog/Ints"), by decide, rfl⟩ (oAll_cons ⟨Or.inr (ow hw (i := 47) rfl), (.object "com/example/tanglemark/tanglemark/datalog/Ints"), by decide, rfl⟩ (oAll_cons ⟨Or.inr (ow hw (i := 49) rfl), (.object "com/example/tanglemark/tanglemark/datalog/Ints"), by decide, rfl⟩ (oAll_cons ⟨Or.inr (ow hw (i := 51) rfl), (.object "com/example/tanglemark/tanglemark/datalog/Ints"), by decide, rfl⟩ (oAll_cons ⟨Or.inr (ow hw (i := 53) rfl), (.object "com/example/tanglemark/tanglemark/datalog/Ints"), by decide, rfl⟩ (oAll_cons ⟨Or.inr (ow hw (i := 55) rfl), (.object "com/example/tanglemark/tanglemark/datalog/Ints"), by decide, rfl⟩ oAll_nil))))))) (by decide) ?_
    intro T b203 B
    refine W_dup B (hb hby at_220) (pc' := 221) rfl rfl ?_
    refine W_ldcStr B hS (n := 4) hown (ow hw (i := 7) rfl) (own_strAtoms hw) (hb hby at_221) (pc' := 223) rfl (by decide) (by decide) (cells' := 8) rfl (slots' := 39) rfl ?_
    intro T sa204 vm_ lo B hS hown
    refine W_init B (y := (⟨"com/example/tanglemark/tanglemark/datalog/SharedSets", "<init>", "(Ljava/lang/String;)V"⟩ : MethodName)) hown rfl (ow hw (i := 15) rfl) (ow hw (i := 16) rfl) (ow hw (i := 6) rfl) (ow hw (i := 17) rfl) (by decide) (a := b203) (rm_sets l Z a0 hw h0 b203 sa204 [(b202, oA .int [o0, o0, o0, o0, o0, o0]), (b201, oO cn3 [(fk14, .null), (fk15, (.int (0 : Int32))), (fk16, .null), (fk17, .null), (fk18, (.int (0 : Int32))), (fk19, .null), (fk20, .null), (fk21, .null), (fk22, .null), (fk23, .null), (fk24, .null)]), (b200, oA .int [(.int z196), (.int z198)]), (b195, oA .int [(.int a1), (.int a2), (.int a3), (.int a4)]), (b194, oA .int [o0])]) (lenOf pd_2 rfl) (hb hby at_223) (pc' := 226) rfl (argsL := [(.ref sa204)]) (rest := [(.ref b203), (.ref b202), (.ref b195), (.ref b194), (.int (3 : Int32)), (.ref b201), (.ref b201)]) rfl (by rw [hml]; rfl) (W := 7) (oLe rfl) (by decide) (cells' := 22) rfl (slots' := 179) rfl ?_
    intro T v_ d_ q_ B
    obtain ⟨e205, e206, e207, e208, e209, e210, e211, e212, e213, e214, e215, e216, e217, e218, e219, rfl, rfl⟩ := q_
    show oWin p e below Z h0 _ _ (T.setTop (mkF m 226 #[.val (.int a1), .val (.int a2), .val (.int a3), .val (.int a4), .val (.int a5), .val (.int a6), .val (.int (1 : Int32)), .val (.int (1 : Int32)), .val (.int z190), .val (.int z192), .val (.ref b194), .val (.ref b195), .val (.int (1 : Int32)), .val (.int a2), .val (.int (0 : Int32)), .val (.int z196), .val (.int z198), .val (.ref b200), .unset, .unset, .unset] [(.ref b203), (.ref b202), (.ref b195), (.ref b194), (.int (3 : Int32)), (.ref b201), (.ref b201)]))
    refine W_iconst B (hb hby at_226) (pc' := 227) rfl (z := (2 : Int32)) (by decide) ?_
    refine W_newarray B (ow hw (i := 0) rfl) (hb hby at_227) (pc' := 229) rfl (by decide) (cap := 2) (by decide) (by decide) (cells' := 23) rfl (slots' := 181) rfl (vs := [(.int (0 : Int32)), (.int (0 : Int32))]) rfl (ty := .int) rfl ?_
    intro T b220 B
    refine W_dup B (hb hby at_229) (pc' := 230) rfl rfl ?_
    refine W_iconst B (hb hby at_230) (pc' := 231) rfl (z := (0 : Int32)) (by decide) ?_
    refine W_iconst B (hb hby at_231) (pc' := 232) rfl (z := (0 : Int32)) (by decide) ?_
    refine W_iastore B (hb hby at_232) (pc' := 233) rfl (i := 0) rfl (by decide) (oLt rfl) (ds' := [(b220, oA .int [o0, o0]), e205, e206, e207, e208, e209, e210, e211, e212, e213, e214, e215, e216, e217, e218, e219, (b202, oA .int [o0, o0, o0, o0, o0, o0]), (b201, oO cn3 [(fk14, .null), (fk15, (.int (0 : Int32))), (fk16, .null), (fk17, .null), (fk18, (.int (0 : Int32))), (fk19, .null), (fk20, .null), (fk21, .null), (fk22, .null), (fk23, .null), (fk24, .null)]), (b200, oA .int [(.int z196), (.int z198)]), (b195, oA .int [(.int a1), (.int a2), (.int a3), (.int a4)]), (b194, oA .int [o0])]) rfl ?_
    intro T B
    refine W_dup B (hb hby at_233) (pc' := 234) rfl rfl ?_
    refine W_iconst B (hb hby at_234) (pc' := 235) rfl (z := (1 : Int32)) (by decide) ?_
    refine W_iconst B (hb hby at_235) (pc' := 236) rfl (z := (0 : Int32)) (by decide) ?_
    refine W_iastore B (hb hby at_236) (pc' := 237) rfl (i := 0) rfl (by decide) (oLt rfl) (ds' := [(b220, oA .int [o0, o0]), e205, e206, e207, e208, e209, e210, e211, e212, e213, e214, e215, e216, e217, e218, e219, (b202, oA .int [o0, o0, o0, o0, o0, o0]), (b201, oO cn3 [(fk14, .null), (fk15, (.int (0 : Int32))), (fk16, .null), (fk17, .null), (fk18, (.int (0 : Int32))), (fk19, .null), (fk20, .null), (fk21, .null), (fk22, .null), (fk23, .null), (fk24, .null)]), (b200, oA .int [(.int z196), (.int z198)]), (b195, oA .int [(.int a1), (.int a2), (.int a3), (.int a4)]), (b194, oA .int [o0])]) rfl ?_
    intro T B
    refine W_iconst B (hb hby at_237) (pc' := 238) rfl (z := (3 : Int32)) (by decide) ?_
    refine W_newarray B (ow hw (i := 0) rfl) (hb hby at_238) (pc' := 240) rfl (by decide) (cap := 3) (by decide) (by decide) (cells' := 24) rfl (slots' := 184) rfl (vs := [(.int (0 : Int32)), (.int (0 : Int32)), (.int (0 : Int32))]) rfl (ty := .int) rfl ?_
    intro T b221 B
    refine W_dup B (hb hby at_240) (pc' := 241) rfl rfl ?_
    refine W_iconst B (hb hby at_241) (pc' := 242) rfl (z := (0 : Int32)) (by decide) ?_
    refine W_iconst B (hb hby at_242) (pc' := 243) rfl (z := (0 : Int32)) (by decide) ?_
    refine W_iastore B (hb hby at_243) (pc' := 244) rfl (i := 0) rfl (by decide) (oLt rfl) (ds' := [(b221, oA .int [o0, o0, o0]), (b220, oA .int [o0, o0]), e205, e206, e207, e208, e209, e210, e211, e212, e213, e214, e215, e216, e217, e218, e219, (b202, oA .int [o0, o0, o0, o0, o0, o0]), (b201, oO cn3 [(fk14, .null), (fk15, (.int (0 : Int32))), (fk16, .null), (fk17, .null), (fk18, (.int (0 : Int32))), (fk19, .null), (fk20, .null), (fk21, .null), (fk22, .null), (fk23, .null), (fk24, .null)]), (b200, oA .int [(.int z196), (.int z198)]), (b195, oA .int [(.int a1), (.int a2), (.int a3), (.int a4)]), (b194, oA .int [o0])]) rfl ?_
    intro T B
    refine W_dup B (hb hby at_244) (pc' := 245) rfl rfl ?_
    refine W_iconst B (hb hby at_245) (pc' := 246) rfl (z := (1 : Int32)) (by decide) ?_
    refine W_iconst B (hb hby at_246) (pc' := 247) rfl (z := (1 : Int32)) (by decide) ?_
    refine W_iastore B (hb hby at_247) (pc' := 248) rfl (i := 0) rfl (by decide) (oLt rfl) (ds' := [(b221, oA .int [o0, (.int (1 : Int32)), o0]), (b220, oA .int [o0, o0]), e205, e206, e207, e208, e209, e210, e211, e212, e213, e214, e215, e216, e217, e218, e219, (b202, oA .int [o0, o0, o0, o0, o0, o0]), (b201, oO cn3 [(fk14, .null), (fk15, (.int (0 : Int32))), (fk16, .null), (fk17, .null), (fk18, (.int (0 : Int32))), (fk19, .null), (fk20, .null), (fk21, .null), (fk22, .null), (fk23, .null), (fk24, .null)]), (b200, oA .int [(.int z196), (.int z198)]), (b195, oA .int [(.int a1), (.int a2), (.int a3), (.int a4)]), (b194, oA .int [o0])]) rfl ?_
    intro T B
    refine W_dup B (hb hby at_248) (pc' := 249) rfl rfl ?_
    refine W_iconst B (hb hby at_249) (pc' := 250) rfl (z := (2 : Int32)) (by decide) ?_
    refine W_iconst B (hb hby at_250) (pc' := 251) rfl (z := (2 : Int32)) (by decide) ?_
    refine W_iastore B (hb hby at_251) (pc' := 252) rfl (i := 0) rfl (by decide) (oLt rfl) (ds' := [(b221, oA .int [o0, (.int (1 : Int32)), (.int (2 : Int32))]), (b220, oA .int [o0, o0]), e205, e206, e207, e208, e209, e210, e211, e212, e213, e214, e215, e216, e217, e218, e219, (b202, oA .int [o0, o0, o0, o0, o0, o0]), (b201, oO cn3 [(fk14, .null), (fk15, (.int (0 : Int32))), (fk16, .null), (fk17, .null), (fk18, (.int (0 : Int32))), (fk19, .null), (fk20, .null), (fk21, .null), (fk22, .null), (fk23, .null), (fk24, .null)]), (b200, oA .int [(.int z196), (.int z198)]), (b195, oA .int [(.int a1), (.int a2), (.int a3), (.int a4)]), (b194, oA .int [o0])]) rfl ?_
    intro T B
    refine W_init B (y := (⟨"com/example/tanglemark/tanglemark/datalog/FactoredRows", "<init>", "(I[I[I[ILcom/example/tanglemark/tanglemark/datalog/SharedSets;[I[I)V"⟩ : MethodName)) hown rfl (ow hw (i := 56) rfl) (ow hw (i := 57) rfl) (ow hw (i := 3) rfl) (ow hw (i := 58) rfl) (by decide) (a := b201) (rm_fr1 l Z a0 hw h0 b201 b194 b195 b202 b203 b220 b221 e205 e206 e207 e208 e209 e210 e211 e212 e213 e214 e215 e216 e217 e218 e219 (b202, oA .int [o0, o0, o0, o0, o0, o0]) (b200, oA .int [(.int z196), (.int z198)]) (b195, oA .int [(.int a1), (.int a2), (.int a3), (.int a4)]) []) (lenOf pd_4 rfl) (hb hby at_252) (pc' := 255) rfl (argsL := [(.int (3 : Int32)), (.ref b194), (.ref b195), (.ref b202), (.ref b203), (.ref b220), (.ref b221)]) (rest := [(.ref b201)]) rfl (by rw [hml]; rfl) (W := 1) (oLe rfl) (by decide) (cells' := 27) rfl (slots' := 193) rfl ?_
    intro T v_ d_ q_ B
    obtain ⟨b222, b223, b224, rfl, rfl⟩ := q_
    show oWin p e below Z h0 _ _ (T.setTop (mkF m 255 #[.val (.int a1), .val (.int a2), .val (.int a3), .val (.int a4), .val (.int a5), .val (.int a6), .val (.int (1 : Int32)), .val (.int (1 : Int32)), .val (.int z190), .val (.int z192), .val (.ref b194), .val (.ref b195), .val (.int (1 : Int32)), .val (.int a2), .val (.int (0 : Int32)), .val (.int z196), .val (.int z198), .val (.ref b200), .unset, .unset, .unset] [(.ref b201)]))
    refine W_astore B (hb hby at_255) (pc' := 257) rfl rfl (ls' := #[.val (.int a1), .val (.int a2), .val (.int a3), .val (.int a4), .val (.int a5), .val (.int a6), .val (.int (1 : Int32)), .val (.int (1 : Int32)), .val (.int z190), .val (.int z192), .val (.ref b194), .val (.ref b195), .val (.int (1 : Int32)), .val (.int a2), .val (.int (0 : Int32)), .val (.int z196), .val (.int z198), .val (.ref b200), .val (.ref b201), .unset, .unset]) rfl ?_
    refine W_aload B (hb hby at_257) (pc' := 259) rfl rfl rfl ?_
    refine W_iload B (hb hby at_259) (pc' := 261) rfl rfl ?_
    refine W_aload B (hb hby at_261) (pc' := 263) rfl rfl rfl ?_
    refine W_virtual B (y := (⟨"com/example/tanglemark/tanglemark/datalog/FactoredRows", "keyHas", "(I[I)Z"⟩ : MethodName)) (z := (⟨"com/example/tanglemark/tanglemark/datalog/FactoredRows", "keyHas", "(I[I)Z"⟩ : MethodName)) hown (ow hw (i := 98) rfl) (ow hw (i := 99) rfl) (oNotFace B (ow hw (i := 101) rfl) rfl) (ow hw (i := 101) rfl) (ow hw (i := 100) rfl) (ow hw (i := 3) rfl) (ow hw (i := 102) rfl) (by decide) (a := b201) (rm_kh11 l Z a0 hw h0 b201 b200 b194 b195 b202 b203 b220 b221 b222 b223 b224 a1 a2 a3 a4 z196 z198 (b222, oA .int [o0, (.int (1 : Int32))]) (b223, oA .int [o0, (.int (-1 : Int32)), (.int (-2 : Int32))]) (b224, oO cn2 [(fk10, (.int (0 : Int32))), (fk11, (.int (0 : Int32))), (fk12, (.int (0 : Int32))), (fk13, (.int (0 : Int32)))]) (b221, oA .int [o0, (.int (1 : Int32)), (.int (2 : Int32))]) (b220, oA .int [o0, o0]) e205 e206 e207 e208 e209 e210 e211 e212 e213 e214 e215 e216 e217 e218 e219 (b202, oA .int [o0, o0, o0, o0, o0, o0]) []) (lenOf pd_5 rfl) (hb hby at_263) (pc' := 266) rfl (argsL := [(.int (1 : Int32)), (.ref b200)]) (rest := []) rfl (by rw [hml]; rfl) (W := 0) (oLe rfl) (j := 21) rfl (by decide) (cells' := 27) rfl (slots' := 193) rfl ?_
    intro T v_ d_ q_ B
    rcases q_ with ⟨q225, rfl, rfl⟩ | ⟨q226, rfl, rfl⟩
    · show oWin p e below Z h0 _ _ (T.setTop (mkF m 266 #[.val (.int a1), .val (.int a2), .val (.int a3), .val (.int a4), .val (.int a5), .val (.int a6), .val (.int (1 : Int32)), .val (.int (1 : Int32)), .val (.int z190), .val (.int z192), .val (.ref b194), .val (.ref b195), .val (.int (1 : Int32)), .val (.int a2), .val (.int (0 : Int32)), .val (.int z196), .val (.int z198), .val (.ref b200), .val (.ref b201), .unset, .unset] [(.int (1 : Int32))]))
      refine W_istore B (hb hby at_266) (pc' := 268) rfl (v := (1 : Int32)) rfl (ls' := #[.val (.int a1), .val (.int a2), .val (.int a3), .val (.int a4), .val (.int a5), .val (.int a6), .val (.int (1 : Int32)), .val (.int (1 : Int32)), .val (.int z190), .val (.int z192), .val (.ref b194), .val (.ref b195), .val (.int (1 : Int32)), .val (.int a2), .val (.int (0 : Int32)), .val (.int z196), .val (.int z198), .val (.ref b200), .val (.ref b201), .val (.int (1 : Int32)), .unset]) rfl ?_
      refine W_iload B (hb hby at_268) (pc' := 270) rfl rfl ?_
      refine W_ifY B (hb hby at_270) (by decide) (pc' := 279) (by decide) (by decide) ?_
      refine W_iload B (hb hby at_279) (pc' := 281) rfl rfl ?_
      refine W_iconst B (hb hby at_281) (pc' := 282) rfl (z := (1 : Int32)) (by decide) ?_
      refine W_icmpN B (hb hby at_282) (pc' := 285) rfl (by decide) ?_
      refine W_iload B (hb hby at_285) (pc' := 287) rfl rfl ?_
      refine W_iload B (hb hby at_287) (pc' := 289) rfl rfl ?_
      refine W_icmp_ne B (hb hby at_289) (by decide) (pt := 296) (by decide) (pc' := 292) rfl (fun (c227 : ¬ z196 = a2) => ?_) (fun (c227 : z196 = a2) => ?_)
      · refine W_iconst B (hb hby at_296) (pc' := 297) rfl (z := (0 : Int32)) (by decide) ?_
        refine W_istore B (hb hby at_297) (pc' := 299) rfl (v := (0 : Int32)) rfl (ls' := #[.val (.int a1), .val (.int a2), .val (.int a3), .val (.int a4), .val (.int a5), .val (.int a6), .val (.int (1 : Int32)), .val (.int (1 : Int32)), .val (.int z190), .val (.int z192), .val (.ref b194), .val (.ref b195), .val (.int (1 : Int32)), .val (.int a2), .val (.int (0 : Int32)), .val (.int z196), .val (.int z198), .val (.ref b200), .val (.ref b201), .val (.int (1 : Int32)), .val (.int (0 : Int32))]) rfl ?_
        refine W_goto B (hb hby at_299) (by decide) (pc' := 323) (by decide) ?_
        refine W_iload B (hb hby at_323) (pc' := 325) rfl rfl ?_
        refine W_iload B (hb hby at_325) (pc' := 327) rfl rfl ?_
        refine W_icmpY B (hb hby at_327) (by decide) (pc' := 334) (by decide) (by decide) ?_
        refine W_iconst B (hb hby at_334) (pc' := 335) rfl (z := (0 : Int32)) (by decide) ?_
        refine W_retNW B hS hret (by simp) (hb hby at_335) (by decide) ?_
        exfalso
        have fq1 := orI a2
        have fq2 := orI z196
        have fq3 := oeqI q225
        have fq4 := oneI c227
        omega
      refine W_iconst B (hb hby at_292) (pc' := 293) rfl (z := (1 : Int32)) (by decide) ?_
      refine W_goto B (hb hby at_293) (by decide) (pc' := 297) (by decide) ?_
      refine W_istore B (hb hby at_297) (pc' := 299) rfl (v := (1 : Int32)) rfl (ls' := #[.val (.int a1), .val (.int a2), .val (.int a3), .val (.int a4), .val (.int a5), .val (.int a6), .val (.int (1 : Int32)), .val (.int (1 : Int32)), .val (.int z190), .val (.int z192), .val (.ref b194), .val (.ref b195), .val (.int (1 : Int32)), .val (.int a2), .val (.int (0 : Int32)), .val (.int z196), .val (.int z198), .val (.ref b200), .val (.ref b201), .val (.int (1 : Int32)), .val (.int (1 : Int32))]) rfl ?_
      refine W_goto B (hb hby at_299) (by decide) (pc' := 323) (by decide) ?_
      refine W_iload B (hb hby at_323) (pc' := 325) rfl rfl ?_
      refine W_iload B (hb hby at_325) (pc' := 327) rfl rfl ?_
      refine W_icmpN B (hb hby at_327) (pc' := 330) rfl (by decide) ?_
      refine W_iconst B (hb hby at_330) (pc' := 331) rfl (z := (1 : Int32)) (by decide) ?_
      refine W_goto B (hb hby at_331) (by decide) (pc' := 335) (by decide) ?_
      refine W_retNW B hS hret (by simp) (hb hby at_335) (by decide) ?_
      rfl
    show oWin p e below Z h0 _ _ (T.setTop (mkF m 266 #[.val (.int a1), .val (.int a2), .val (.int a3), .val (.int a4), .val (.int a5), .val (.int a6), .val (.int (1 : Int32)), .val (.int (1 : Int32)), .val (.int z190), .val (.int z192), .val (.ref b194), .val (.ref b195), .val (.int (1 : Int32)), .val (.int a2), .val (.int (0 : Int32)), .val (.int z196), .val (.int z198), .val (.ref b200), .val (.ref b201), .unset, .unset] [(.int (0 : Int32))]))
    refine W_istore B (hb hby at_266) (pc' := 268) rfl (v := (0 : Int32)) rfl (ls' := #[.val (.int a1), .val (.int a2), .val (.int a3), .val (.int a4), .val (.int a5), .val (.int a6), .val (.int (1 : Int32)), .val (.int (1 : Int32)), .val (.int z190), .val (.int z192), .val (.ref b194), .val (.ref b195), .val (.int (1 : Int32)), .val (.int a2), .val (.int (0 : Int32)), .val (.int z196), .val (.int z198), .val (.ref b200), .val (.ref b201), .val (.int (0 : Int32)), .unset]) rfl ?_
    refine W_iload B (hb hby at_268) (pc' := 270) rfl rfl ?_
    refine W_ifY B (hb hby at_270) (by decide) (pc' := 279) (by decide) (by decide) ?_
    refine W_iload B (hb hby at_279) (pc' := 281) rfl rfl ?_
    refine W_iconst B (hb hby at_281) (pc' := 282) rfl (z := (1 : Int32)) (by decide) ?_
    refine W_icmpN B (hb hby at_282) (pc' := 285) rfl (by decide) ?_
    refine W_iload B (hb hby at_285) (pc' := 287) rfl rfl ?_
    refine W_iload B (hb hby at_287) (pc' := 289) rfl rfl ?_
    refine W_icmp_ne B (hb hby at_289) (by decide) (pt := 296) (by decide) (pc' := 292) rfl (fun (c228 : ¬ z196 = a2) => ?_) (fun (c228 : z196 = a2) => ?_)
    · refine W_iconst B (hb hby at_296) (pc' := 297) rfl (z := (0 : Int32)) (by decide) ?_
      refine W_istore B (hb hby at_297) (pc' := 299) rfl (v := (0 : Int32)) rfl (ls' := #[.val (.int a1), .val (.int a2), .val (.int a3), .val (.int a4), .val (.int a5), .val (.int a6), .val (.int (1 : Int32)), .val (.int (1 : Int32)), .val (.int z190), .val (.int z192), .val (.ref b194), .val (.ref b195), .val (.int (1 : Int32)), .val (.int a2), .val (.int (0 : Int32)), .val (.int z196), .val (.int z198), .val (.ref b200), .val (.ref b201), .val (.int (0 : Int32)), .val (.int (0 : Int32))]) rfl ?_
      refine W_goto B (hb hby at_299) (by decide) (pc' := 323) (by decide) ?_
      refine W_iload B (hb hby at_323) (pc' := 325) rfl rfl ?_
      refine W_iload B (hb hby at_325) (pc' := 327) rfl rfl ?_
      refine W_icmpN B (hb hby at_327) (pc' := 330) rfl (by decide) ?_
      refine W_iconst B (hb hby at_330) (pc' := 331) rfl (z := (1 : Int32)) (by decide) ?_
      refine W_goto B (hb hby at_331) (by decide) (pc' := 335) (by decide) ?_
      refine W_retNW B hS hret (by simp) (hb hby at_335) (by decide) ?_
      rfl
    refine W_iconst B (hb hby at_292) (pc' := 293) rfl (z := (1 : Int32)) (by decide) ?_
    refine W_goto B (hb hby at_293) (by decide) (pc' := 297) (by decide) ?_
    refine W_istore B (hb hby at_297) (pc' := 299) rfl (v := (1 : Int32)) rfl (ls' := #[.val (.int a1), .val (.int a2), .val (.int a3), .val (.int a4), .val (.int a5), .val (.int a6), .val (.int (1 : Int32)), .val (.int (1 : Int32)), .val (.int z190), .val (.int z192), .val (.ref b194), .val (.ref b195), .val (.int (1 : Int32)), .val (.int a2), .val (.int (0 : Int32)), .val (.int z196), .val (.int z198), .val (.ref b200), .val (.ref b201), .val (.int (0 : Int32)), .val (.int (1 : Int32))]) rfl ?_
    refine W_goto B (hb hby at_299) (by decide) (pc' := 323) (by decide) ?_
    refine W_iload B (hb hby at_323) (pc' := 325) rfl rfl ?_
    refine W_iload B (hb hby at_325) (pc' := 327) rfl rfl ?_
    refine W_icmpY B (hb hby at_327) (by decide) (pc' := 334) (by decide) (by decide) ?_
    refine W_iconst B (hb hby at_334) (pc' := 335) rfl (z := (0 : Int32)) (by decide) ?_
    refine W_retNW B hS hret (by simp) (hb hby at_335) (by decide) ?_
    exfalso
    have fq1 := orI a2
    have fq2 := orI z196
    have fq3 := oneI q226
    have fq4 := oeqI c228
    omega
  refine oJoin B (fun z229 : Int32 => True) (fun z229 => (mkF m 30 #[.val (.int a1), .val (.int a2), .val (.int a3), .val (.int a4), .val (.int a5), .val (.int a6), .val (.int (1 : Int32)), .val (.int (2 : Int32)), .unset, .unset, .unset, .unset, .unset, .unset, .unset, .unset, .unset, .unset, .unset, .unset, .unset] [(.int z229)])) ?_ ?_
  · intro kJ
    refine W_iload B (hb hby at_16) (pc' := 18) rfl rfl ?_
    refine W_iconst B (hb hby at_18) (pc' := 19) rfl (z := (3 : Int32)) (by decide) ?_
    refine W_iushr B (hb hby at_19) (pc' := 20) rfl (z := ((a6.toUInt32 >>> ((3 : Int32) &&& 31).toUInt32).toInt32)) rfl ?_
    refine W_iconst B (hb hby at_20) (pc' := 21) rfl (z := (1 : Int32)) (by decide) ?_
    refine W_iand B (hb hby at_21) (pc' := 22) rfl (z := (((a6.toUInt32 >>> ((3 : Int32) &&& 31).toUInt32).toInt32) &&& (1 : Int32))) rfl ?_
    refine W_if_eq B (hb hby at_22) (by decide) (pt := 29) (by decide) (pc' := 25) rfl (fun (c230 : (((a6.toUInt32 >>> ((3 : Int32) &&& 31).toUInt32).toInt32) &&& (1 : Int32)) = (0 : Int32)) => ?_) (fun (c230 : ¬ (((a6.toUInt32 >>> ((3 : Int32) &&& 31).toUInt32).toInt32) &&& (1 : Int32)) = (0 : Int32)) => ?_)
    · refine W_iconst B (hb hby at_29) (pc' := 30) rfl (z := (0 : Int32)) (by decide) ?_
      exact kJ _ _ (trivial) B
    refine W_iconst B (hb hby at_25) (pc' := 26) rfl (z := (1 : Int32)) (by decide) ?_
    refine W_goto B (hb hby at_26) (by decide) (pc' := 30) (by decide) ?_
    exact kJ _ _ (trivial) B
  intro z229 T hz229 B
  refine W_istore B (hb hby at_30) (pc' := 32) rfl (v := z229) rfl (ls' := #[.val (.int a1), .val (.int a2), .val (.int a3), .val (.int a4), .val (.int a5), .val (.int a6), .val (.int (1 : Int32)), .val (.int (2 : Int32)), .val (.int z229), .unset, .unset, .unset, .unset, .unset, .unset, .unset, .unset, .unset, .unset, .unset, .unset]) rfl ?_
  refine oJoin B (fun z231 : Int32 => True) (fun z231 => (mkF m 46 #[.val (.int a1), .val (.int a2), .val (.int a3), .val (.int a4), .val (.int a5), .val (.int a6), .val (.int (1 : Int32)), .val (.int (2 : Int32)), .val (.int z229), .unset, .unset, .unset, .unset, .unset, .unset, .unset, .unset, .unset, .unset, .unset, .unset] [(.int z231)])) ?_ ?_
  · intro kJ
    refine W_iload B (hb hby at_32) (pc' := 34) rfl rfl ?_
    refine W_iconst B (hb hby at_34) (pc' := 35) rfl (z := (4 : Int32)) (by decide) ?_
    refine W_iushr B (hb hby at_35) (pc' := 36) rfl (z := ((a6.toUInt32 >>> ((4 : Int32) &&& 31).toUInt32).toInt32)) rfl ?_
    refine W_iconst B (hb hby at_36) (pc' := 37) rfl (z := (1 : Int32)) (by decide) ?_
    refine W_iand B (hb hby at_37) (pc' := 38) rfl (z := (((a6.toUInt32 >>> ((4 : Int32) &&& 31).toUInt32).toInt32) &&& (1 : Int32))) rfl ?_
    refine W_if_eq B (hb hby at_38) (by decide) (pt := 45) (by decide) (pc' := 41) rfl (fun (c232 : (((a6.toUInt32 >>> ((4 : Int32) &&& 31).toUInt32).toInt32) &&& (1 : Int32)) = (0 : Int32)) => ?_) (fun (c232 : ¬ (((a6.toUInt32 >>> ((4 : Int32) &&& 31).toUInt32).toInt32) &&& (1 : Int32)) = (0 : Int32)) => ?_)
    · refine W_iconst B (hb hby at_45) (pc' := 46) rfl (z := (0 : Int32)) (by decide) ?_
      exact kJ _ _ (trivial) B
    refine W_iconst B (hb hby at_41) (pc' := 42) rfl (z := (1 : Int32)) (by decide) ?_
    refine W_goto B (hb hby at_42) (by decide) (pc' := 46) (by decide) ?_
    exact kJ _ _ (trivial) B
  intro z231 T hz231 B
  refine W_istore B (hb hby at_46) (pc' := 48) rfl (v := z231) rfl (ls' := #[.val (.int a1), .val (.int a2), .val (.int a3), .val (.int a4), .val (.int a5), .val (.int a6), .val (.int (1 : Int32)), .val (.int (2 : Int32)), .val (.int z229), .val (.int z231), .unset, .unset, .unset, .unset, .unset, .unset, .unset, .unset, .unset, .unset, .unset]) rfl ?_
  refine W_iload B (hb hby at_48) (pc' := 50) rfl rfl ?_
  refine W_ifY B (hb hby at_50) (by decide) (pc' := 61) (by decide) (by decide) ?_
  refine W_iload B (hb hby at_61) (pc' := 63) rfl rfl ?_
  refine W_iconst B (hb hby at_63) (pc' := 64) rfl (z := (1 : Int32)) (by decide) ?_
  refine W_icmpY B (hb hby at_64) (by decide) (pc' := 79) (by decide) (by decide) ?_
  refine W_iconst B (hb hby at_79) (pc' := 80) rfl (z := (2 : Int32)) (by decide) ?_
  refine W_newarray B (ow hw (i := 0) rfl) (hb hby at_80) (pc' := 82) rfl (by decide) (cap := 2) (by decide) (by decide) (cells' := 1) rfl (slots' := 2) rfl (vs := [(.int (0 : Int32)), (.int (0 : Int32))]) rfl (ty := .int) rfl ?_
  intro T b233 B
  refine W_dup B (hb hby at_82) (pc' := 83) rfl rfl ?_
  refine W_iconst B (hb hby at_83) (pc' := 84) rfl (z := (0 : Int32)) (by decide) ?_
  refine W_iconst B (hb hby at_84) (pc' := 85) rfl (z := (0 : Int32)) (by decide) ?_
  refine W_iastore B (hb hby at_85) (pc' := 86) rfl (i := 0) rfl (by decide) (oLt rfl) (ds' := [(b233, oA .int [o0, o0])]) rfl ?_
  intro T B
  refine W_dup B (hb hby at_86) (pc' := 87) rfl rfl ?_
  refine W_iconst B (hb hby at_87) (pc' := 88) rfl (z := (1 : Int32)) (by decide) ?_
  refine W_iconst B (hb hby at_88) (pc' := 89) rfl (z := (1 : Int32)) (by decide) ?_
  refine W_iastore B (hb hby at_89) (pc' := 90) rfl (i := 0) rfl (by decide) (oLt rfl) (ds' := [(b233, oA .int [o0, (.int (1 : Int32))])]) rfl ?_
  intro T B
  refine W_astore B (hb hby at_90) (pc' := 92) rfl rfl (ls' := #[.val (.int a1), .val (.int a2), .val (.int a3), .val (.int a4), .val (.int a5), .val (.int a6), .val (.int (1 : Int32)), .val (.int (2 : Int32)), .val (.int z229), .val (.int z231), .val (.ref b233), .unset, .unset, .unset, .unset, .unset, .unset, .unset, .unset, .unset, .unset]) rfl ?_
  refine W_iconst B (hb hby at_92) (pc' := 93) rfl (z := (4 : Int32)) (by decide) ?_
  refine W_newarray B (ow hw (i := 0) rfl) (hb hby at_93) (pc' := 95) rfl (by decide) (cap := 4) (by decide) (by decide) (cells' := 2) rfl (slots' := 6) rfl (vs := [(.int (0 : Int32)), (.int (0 : Int32)), (.int (0 : Int32)), (.int (0 : Int32))]) rfl (ty := .int) rfl ?_
  intro T b234 B
  refine W_dup B (hb hby at_95) (pc' := 96) rfl rfl ?_
  refine W_iconst B (hb hby at_96) (pc' := 97) rfl (z := (0 : Int32)) (by decide) ?_
  refine W_iloadN B (hb hby at_97) (pc' := 98) rfl rfl ?_
  refine W_iastore B (hb hby at_98) (pc' := 99) rfl (i := 0) rfl (by decide) (oLt rfl) (ds' := [(b234, oA .int [(.int a1), o0, o0, o0]), (b233, oA .int [o0, (.int (1 : Int32))])]) rfl ?_
  intro T B
  refine W_dup B (hb hby at_99) (pc' := 100) rfl rfl ?_
  refine W_iconst B (hb hby at_100) (pc' := 101) rfl (z := (1 : Int32)) (by decide) ?_
  refine W_iloadN B (hb hby at_101) (pc' := 102) rfl rfl ?_
  refine W_iastore B (hb hby at_102) (pc' := 103) rfl (i := 0) rfl (by decide) (oLt rfl) (ds' := [(b234, oA .int [(.int a1), (.int a2), o0, o0]), (b233, oA .int [o0, (.int (1 : Int32))])]) rfl ?_
  intro T B
  refine W_dup B (hb hby at_103) (pc' := 104) rfl rfl ?_
  refine W_iconst B (hb hby at_104) (pc' := 105) rfl (z := (2 : Int32)) (by decide) ?_
  refine W_iloadN B (hb hby at_105) (pc' := 106) rfl rfl ?_
  refine W_iastore B (hb hby at_106) (pc' := 107) rfl (i := 0) rfl (by decide) (oLt rfl) (ds' := [(b234, oA .int [(.int a1), (.int a2), (.int a3), o0]), (b233, oA .int [o0, (.int (1 : Int32))])]) rfl ?_
  intro T B
  refine W_dup B (hb hby at_107) (pc' := 108) rfl rfl ?_
  refine W_iconst B (hb hby at_108) (pc' := 109) rfl (z := (3 : Int32)) (by decide) ?_
  refine W_iloadN B (hb hby at_109) (pc' := 110) rfl rfl ?_
  refine W_iastore B (hb hby at_110) (pc' := 111) rfl (i := 0) rfl (by decide) (oLt rfl) (ds' := [(b234, oA .int [(.int a1), (.int a2), (.int a3), (.int a4)]), (b233, oA .int [o0, (.int (1 : Int32))])]) rfl ?_
  intro T B
  refine W_astore B (hb hby at_111) (pc' := 113) rfl rfl (ls' := #[.val (.int a1), .val (.int a2), .val (.int a3), .val (.int a4), .val (.int a5), .val (.int a6), .val (.int (1 : Int32)), .val (.int (2 : Int32)), .val (.int z229), .val (.int z231), .val (.ref b233), .val (.ref b234), .unset, .unset, .unset, .unset, .unset, .unset, .unset, .unset, .unset]) rfl ?_
  refine W_iload B (hb hby at_113) (pc' := 115) rfl rfl ?_
  refine W_iload B (hb hby at_115) (pc' := 117) rfl rfl ?_
  refine W_imul B (hb hby at_117) (pc' := 118) rfl (z := (2 : Int32)) (by decide) ?_
  refine W_istore B (hb hby at_118) (pc' := 120) rfl (v := (2 : Int32)) rfl (ls' := #[.val (.int a1), .val (.int a2), .val (.int a3), .val (.int a4), .val (.int a5), .val (.int a6), .val (.int (1 : Int32)), .val (.int (2 : Int32)), .val (.int z229), .val (.int z231), .val (.ref b233), .val (.ref b234), .val (.int (2 : Int32)), .unset, .unset, .unset, .unset, .unset, .unset, .unset, .unset]) rfl ?_
  refine W_iload B (hb hby at_120) (pc' := 122) rfl rfl ?_
  refine W_iconst B (hb hby at_122) (pc' := 123) rfl (z := (1 : Int32)) (by decide) ?_
  refine W_icmpN B (hb hby at_123) (pc' := 126) rfl (by decide) ?_
  refine W_aload B (hb hby at_126) (pc' := 128) rfl rfl rfl ?_
  refine W_iload B (hb hby at_128) (pc' := 130) rfl rfl ?_
  refine W_iaload B (hb hby at_130) (pc' := 131) rfl (i := 0) rfl (by decide) (v := (.int a3)) rfl ?_
  refine W_goto B (hb hby at_131) (by decide) (pc' := 135) (by decide) ?_
  refine W_istore B (hb hby at_135) (pc' := 137) rfl (v := a3) rfl (ls' := #[.val (.int a1), .val (.int a2), .val (.int a3), .val (.int a4), .val (.int a5), .val (.int a6), .val (.int (1 : Int32)), .val (.int (2 : Int32)), .val (.int z229), .val (.int z231), .val (.ref b233), .val (.ref b234), .val (.int (2 : Int32)), .val (.int a3), .unset, .unset, .unset, .unset, .unset, .unset, .unset]) rfl ?_
  refine W_iload B (hb hby at_137) (pc' := 139) rfl rfl ?_
  refine W_iconst B (hb hby at_139) (pc' := 140) rfl (z := (2 : Int32)) (by decide) ?_
  refine W_icmpN B (hb hby at_140) (pc' := 143) rfl (by decide) ?_
  refine W_aload B (hb hby at_143) (pc' := 145) rfl rfl rfl ?_
  refine W_iload B (hb hby at_145) (pc' := 147) rfl rfl ?_
  refine W_iconst B (hb hby at_147) (pc' := 148) rfl (z := (1 : Int32)) (by decide) ?_
  refine W_iadd B (hb hby at_148) (pc' := 149) rfl (z := (3 : Int32)) (by decide) ?_
  refine W_iaload B (hb hby at_149) (pc' := 150) rfl (i := 0) rfl (by decide) (v := (.int a4)) rfl ?_
  refine W_goto B (hb hby at_150) (by decide) (pc' := 154) (by decide) ?_
  refine W_istore B (hb hby at_154) (pc' := 156) rfl (v := a4) rfl (ls' := #[.val (.int a1), .val (.int a2), .val (.int a3), .val (.int a4), .val (.int a5), .val (.int a6), .val (.int (1 : Int32)), .val (.int (2 : Int32)), .val (.int z229), .val (.int z231), .val (.ref b233), .val (.ref b234), .val (.int (2 : Int32)), .val (.int a3), .val (.int a4), .unset, .unset, .unset, .unset, .unset, .unset]) rfl ?_
  refine oJoin B (fun z235 : Int32 => True) (fun z235 => (mkF m 168 #[.val (.int a1), .val (.int a2), .val (.int a3), .val (.int a4), .val (.int a5), .val (.int a6), .val (.int (1 : Int32)), .val (.int (2 : Int32)), .val (.int z229), .val (.int z231), .val (.ref b233), .val (.ref b234), .val (.int (2 : Int32)), .val (.int a3), .val (.int a4), .unset, .unset, .unset, .unset, .unset, .unset] [(.int z235)])) ?_ ?_
  · intro kJ
    refine W_iload B (hb hby at_156) (pc' := 158) rfl rfl ?_
    refine W_if_eq B (hb hby at_158) (by decide) (pt := 166) (by decide) (pc' := 161) rfl (fun (c236 : z229 = (0 : Int32)) => ?_) (fun (c236 : ¬ z229 = (0 : Int32)) => ?_)
    · refine W_iload B (hb hby at_166) (pc' := 168) rfl rfl ?_
      exact kJ _ _ (trivial) B
    refine W_iload B (hb hby at_161) (pc' := 163) rfl rfl ?_
    refine W_goto B (hb hby at_163) (by decide) (pc' := 168) (by decide) ?_
    exact kJ _ _ (trivial) B
  intro z235 T hz235 B
  refine W_istore B (hb hby at_168) (pc' := 170) rfl (v := z235) rfl (ls' := #[.val (.int a1), .val (.int a2), .val (.int a3), .val (.int a4), .val (.int a5), .val (.int a6), .val (.int (1 : Int32)), .val (.int (2 : Int32)), .val (.int z229), .val (.int z231), .val (.ref b233), .val (.ref b234), .val (.int (2 : Int32)), .val (.int a3), .val (.int a4), .val (.int z235), .unset, .unset, .unset, .unset, .unset]) rfl ?_
  refine oJoin B (fun z237 : Int32 => True) (fun z237 => (mkF m 187 #[.val (.int a1), .val (.int a2), .val (.int a3), .val (.int a4), .val (.int a5), .val (.int a6), .val (.int (1 : Int32)), .val (.int (2 : Int32)), .val (.int z229), .val (.int z231), .val (.ref b233), .val (.ref b234), .val (.int (2 : Int32)), .val (.int a3), .val (.int a4), .val (.int z235), .unset, .unset, .unset, .unset, .unset] [(.int z237)])) ?_ ?_
  · intro kJ
    refine W_iload B (hb hby at_170) (pc' := 172) rfl rfl ?_
    refine W_if_eq B (hb hby at_172) (by decide) (pt := 180) (by decide) (pc' := 175) rfl (fun (c238 : z231 = (0 : Int32)) => ?_) (fun (c238 : ¬ z231 = (0 : Int32)) => ?_)
    · refine W_iload B (hb hby at_180) (pc' := 182) rfl rfl ?_
      refine W_iload B (hb hby at_182) (pc' := 184) rfl rfl ?_
      refine W_iconst B (hb hby at_184) (pc' := 185) rfl (z := (5 : Int32)) (by decide) ?_
      refine W_ishr B (hb hby at_185) (pc' := 186) rfl (z := (a6 >>> ((5 : Int32) &&& 31))) rfl ?_
      refine W_ixor B (hb hby at_186) (pc' := 187) rfl (z := (a5 ^^^ (a6 >>> ((5 : Int32) &&& 31)))) rfl ?_
      exact kJ _ _ (trivial) B
    refine W_iload B (hb hby at_175) (pc' := 177) rfl rfl ?_
    refine W_goto B (hb hby at_177) (by decide) (pc' := 187) (by decide) ?_
    exact kJ _ _ (trivial) B
  intro z237 T hz237 B
  refine W_istore B (hb hby at_187) (pc' := 189) rfl (v := z237) rfl (ls' := #[.val (.int a1), .val (.int a2), .val (.int a3), .val (.int a4), .val (.int a5), .val (.int a6), .val (.int (1 : Int32)), .val (.int (2 : Int32)), .val (.int z229), .val (.int z231), .val (.ref b233), .val (.ref b234), .val (.int (2 : Int32)), .val (.int a3), .val (.int a4), .val (.int z235), .val (.int z237), .unset, .unset, .unset, .unset]) rfl ?_
  refine W_iconst B (hb hby at_189) (pc' := 190) rfl (z := (2 : Int32)) (by decide) ?_
  refine W_newarray B (ow hw (i := 0) rfl) (hb hby at_190) (pc' := 192) rfl (by decide) (cap := 2) (by decide) (by decide) (cells' := 3) rfl (slots' := 8) rfl (vs := [(.int (0 : Int32)), (.int (0 : Int32))]) rfl (ty := .int) rfl ?_
  intro T b239 B
  refine W_dup B (hb hby at_192) (pc' := 193) rfl rfl ?_
  refine W_iconst B (hb hby at_193) (pc' := 194) rfl (z := (0 : Int32)) (by decide) ?_
  refine W_iload B (hb hby at_194) (pc' := 196) rfl rfl ?_
  refine W_iastore B (hb hby at_196) (pc' := 197) rfl (i := 0) rfl (by decide) (oLt rfl) (ds' := [(b239, oA .int [(.int z235), o0]), (b234, oA .int [(.int a1), (.int a2), (.int a3), (.int a4)]), (b233, oA .int [o0, (.int (1 : Int32))])]) rfl ?_
  intro T B
  refine W_dup B (hb hby at_197) (pc' := 198) rfl rfl ?_
  refine W_iconst B (hb hby at_198) (pc' := 199) rfl (z := (1 : Int32)) (by decide) ?_
  refine W_iload B (hb hby at_199) (pc' := 201) rfl rfl ?_
  refine W_iastore B (hb hby at_201) (pc' := 202) rfl (i := 0) rfl (by decide) (oLt rfl) (ds' := [(b239, oA .int [(.int z235), (.int z237)]), (b234, oA .int [(.int a1), (.int a2), (.int a3), (.int a4)]), (b233, oA .int [o0, (.int (1 : Int32))])]) rfl ?_
  intro T B
  refine W_astore B (hb hby at_202) (pc' := 204) rfl rfl (ls' := #[.val (.int a1), .val (.int a2), .val (.int a3), .val (.int a4), .val (.int a5), .val (.int a6), .val (.int (1 : Int32)), .val (.int (2 : Int32)), .val (.int z229), .val (.int z231), .val (.ref b233), .val (.ref b234), .val (.int (2 : Int32)), .val (.int a3), .val (.int a4), .val (.int z235), .val (.int z237), .val (.ref b239), .unset, .unset, .unset]) rfl ?_
  refine W_new B hown (ow hw (i := 1) rfl) (ow hw (i := 2) rfl) (ow hw (i := 3) rfl) (hb hby at_204) (pc' := 207) rfl (by decide) (cells' := 4) rfl (slots' := 19) rfl (fs := [(fk14, .null), (fk15, (.int (0 : Int32))), (fk16, .null), (fk17, .null), (fk18, (.int (0 : Int32))), (fk19, .null), (fk20, .null), (fk21, .null), (fk22, .null), (fk23, .null), (fk24, .null)]) (oAll_cons ⟨Or.inl (ow hw (i := 76) rfl), (.object "com/example/tanglemark/tanglemark/datalog/FactoredRows$Stretch"), by decide, rfl⟩ (oAll_cons ⟨Or.inr (ow hw (i := 78) rfl), .int, by decide, rfl⟩ (oAll_cons ⟨Or.inr (ow hw (i := 80) rfl), (.array .int), by decide, rfl⟩ (oAll_cons ⟨Or.inr (ow hw (i := 82) rfl), (.array .int), by decide, rfl⟩ (oAll_cons ⟨Or.inr (ow hw (i := 84) rfl), .int, by decide, rfl⟩ (oAll_cons ⟨Or.inr (ow hw (i := 86) rfl), (.array .int), by decide, rfl⟩ (oAll_cons ⟨Or.inr (ow hw (i := 88) rfl), (.array .int), by decide, rfl⟩ (oAll_cons ⟨Or.inr (ow hw (i := 90) rfl), (.object "com/example/tanglemark/tanglemark/datalog/SharedSets"), by decide, rfl⟩ (oAll_cons ⟨Or.inr (ow hw (i := 92) rfl), (.array .int), by decide, rfl⟩ (oAll_cons ⟨Or.inr (ow hw (i := 94) rfl), (.array .int), by decide, rfl⟩ (oAll_cons ⟨Or.inr (ow hw (i := 97) rfl), (.array .int), by decide, rfl⟩ oAll_nil))))))))))) (by decide) ?_
  intro T b240 B
  refine W_dup B (hb hby at_207) (pc' := 208) rfl rfl ?_
  refine W_iconst B (hb hby at_208) (pc' := 209) rfl (z := (3 : Int32)) (by decide) ?_
  refine W_aload B (hb hby at_209) (pc' := 211) rfl rfl rfl ?_
  refine W_aload B (hb hby at_211) (pc' := 213) rfl rfl rfl ?_
  refine W_bipush B (hb hby at_213) (pc' := 215) rfl (z := (6 : Int32)) (by decide) ?_
  refine W_newarray B (ow hw (i := 0) rfl) (hb hby at_215) (pc' := 217) rfl (by decide) (cap := 6) (by decide) (by decide) (cells' := 5) rfl (slots' := 25) rfl (vs := [(.int (0 : Int32)), (.int (0 : Int32)), (.int (0 : Int32)), (.int (0 : Int32)), (.int (0 : Int32)), (.int (0 : Int32))]) rfl (ty := .int) rfl ?_
  intro T b241 B
  refine W_new B hown (ow hw (i := 4) rfl) (ow hw (i := 5) rfl) (ow hw (i := 6) rfl) (hb hby at_217) (pc' := 220) rfl (by decide) (cells' := 6) rfl (slots' := 32) rfl (fs := [(fk3, .null), (fk4, .null), (fk5, .null), (fk6, .null), (fk7, .null), (fk8, .null), (fk9, .null)]) (oAll_cons ⟨Or.inr (ow hw (i := 43) rfl), (.object "com/example/tanglemark/tanglemark/datalog/Ints"), by decide, rfl⟩ (oAll_cons ⟨Or.inr (ow hw (i := 45) rfl), (.object "com/example/tanglemark/tanglemark/datalog/Ints"), by decide, rfl⟩ (oAll_cons ⟨Or.inr (ow hw (i := 47) rfl), (.object "com/example/tanglemark/tanglemark/datalog/Ints"), by decide, rfl⟩ (oAll_cons ⟨Or.inr (ow hw (i := 49) rfl), (.object "com/example/tanglemark/tanglemark/datalog/Ints"), by decide, rfl⟩ (oAll_cons ⟨Or.inr (ow hw (i := 51) rfl), (.object "com/example/tanglemark/tanglemark/datalog/Ints"), by decide, rfl⟩ (oAll_cons ⟨Or.inr (ow hw (i := 53) rfl), (.object "com/example/tanglemark/tanglemark/datalog/Ints"), by decide, rfl⟩ (oAll_cons ⟨Or.inr (ow hw (i := 55) rfl), (.object "com/example/tanglemark/tanglemark/datalog/Ints"), by decide, rfl⟩ oAll_nil))))))) (by decide) ?_
  intro T b242 B
  refine W_dup B (hb hby at_220) (pc' := 221) rfl rfl ?_
  refine W_ldcStr B hS (n := 4) hown (ow hw (i := 7) rfl) (own_strAtoms hw) (hb hby at_221) (pc' := 223) rfl (by decide) (by decide) (cells' := 8) rfl (slots' := 40) rfl ?_
  intro T sa243 vm_ lo B hS hown
  refine W_init B (y := (⟨"com/example/tanglemark/tanglemark/datalog/SharedSets", "<init>", "(Ljava/lang/String;)V"⟩ : MethodName)) hown rfl (ow hw (i := 15) rfl) (ow hw (i := 16) rfl) (ow hw (i := 6) rfl) (ow hw (i := 17) rfl) (by decide) (a := b242) (rm_sets l Z a0 hw h0 b242 sa243 [(b241, oA .int [o0, o0, o0, o0, o0, o0]), (b240, oO cn3 [(fk14, .null), (fk15, (.int (0 : Int32))), (fk16, .null), (fk17, .null), (fk18, (.int (0 : Int32))), (fk19, .null), (fk20, .null), (fk21, .null), (fk22, .null), (fk23, .null), (fk24, .null)]), (b239, oA .int [(.int z235), (.int z237)]), (b234, oA .int [(.int a1), (.int a2), (.int a3), (.int a4)]), (b233, oA .int [o0, (.int (1 : Int32))])]) (lenOf pd_2 rfl) (hb hby at_223) (pc' := 226) rfl (argsL := [(.ref sa243)]) (rest := [(.ref b242), (.ref b241), (.ref b234), (.ref b233), (.int (3 : Int32)), (.ref b240), (.ref b240)]) rfl (by rw [hml]; rfl) (W := 7) (oLe rfl) (by decide) (cells' := 22) rfl (slots' := 180) rfl ?_
  intro T v_ d_ q_ B
  obtain ⟨e244, e245, e246, e247, e248, e249, e250, e251, e252, e253, e254, e255, e256, e257, e258, rfl, rfl⟩ := q_
  show oWin p e below Z h0 _ _ (T.setTop (mkF m 226 #[.val (.int a1), .val (.int a2), .val (.int a3), .val (.int a4), .val (.int a5), .val (.int a6), .val (.int (1 : Int32)), .val (.int (2 : Int32)), .val (.int z229), .val (.int z231), .val (.ref b233), .val (.ref b234), .val (.int (2 : Int32)), .val (.int a3), .val (.int a4), .val (.int z235), .val (.int z237), .val (.ref b239), .unset, .unset, .unset] [(.ref b242), (.ref b241), (.ref b234), (.ref b233), (.int (3 : Int32)), (.ref b240), (.ref b240)]))
  refine W_iconst B (hb hby at_226) (pc' := 227) rfl (z := (2 : Int32)) (by decide) ?_
  refine W_newarray B (ow hw (i := 0) rfl) (hb hby at_227) (pc' := 229) rfl (by decide) (cap := 2) (by decide) (by decide) (cells' := 23) rfl (slots' := 182) rfl (vs := [(.int (0 : Int32)), (.int (0 : Int32))]) rfl (ty := .int) rfl ?_
  intro T b259 B
  refine W_dup B (hb hby at_229) (pc' := 230) rfl rfl ?_
  refine W_iconst B (hb hby at_230) (pc' := 231) rfl (z := (0 : Int32)) (by decide) ?_
  refine W_iconst B (hb hby at_231) (pc' := 232) rfl (z := (0 : Int32)) (by decide) ?_
  refine W_iastore B (hb hby at_232) (pc' := 233) rfl (i := 0) rfl (by decide) (oLt rfl) (ds' := [(b259, oA .int [o0, o0]), e244, e245, e246, e247, e248, e249, e250, e251, e252, e253, e254, e255, e256, e257, e258, (b241, oA .int [o0, o0, o0, o0, o0, o0]), (b240, oO cn3 [(fk14, .null), (fk15, (.int (0 : Int32))), (fk16, .null), (fk17, .null), (fk18, (.int (0 : Int32))), (fk19, .null), (fk20, .null), (fk21, .null), (fk22, .null), (fk23, .null), (fk24, .null)]), (b239, oA .int [(.int z235), (.int z237)]), (b234, oA .int [(.int a1), (.int a2), (.int a3), (.int a4)]), (b233, oA .int [o0, (.int (1 : Int32))])]) rfl ?_
  intro T B
  refine W_dup B (hb hby at_233) (pc' := 234) rfl rfl ?_
  refine W_iconst B (hb hby at_234) (pc' := 235) rfl (z := (1 : Int32)) (by decide) ?_
  refine W_iconst B (hb hby at_235) (pc' := 236) rfl (z := (0 : Int32)) (by decide) ?_
  refine W_iastore B (hb hby at_236) (pc' := 237) rfl (i := 0) rfl (by decide) (oLt rfl) (ds' := [(b259, oA .int [o0, o0]), e244, e245, e246, e247, e248, e249, e250, e251, e252, e253, e254, e255, e256, e257, e258, (b241, oA .int [o0, o0, o0, o0, o0, o0]), (b240, oO cn3 [(fk14, .null), (fk15, (.int (0 : Int32))), (fk16, .null), (fk17, .null), (fk18, (.int (0 : Int32))), (fk19, .null), (fk20, .null), (fk21, .null), (fk22, .null), (fk23, .null), (fk24, .null)]), (b239, oA .int [(.int z235), (.int z237)]), (b234, oA .int [(.int a1), (.int a2), (.int a3), (.int a4)]), (b233, oA .int [o0, (.int (1 : Int32))])]) rfl ?_
  intro T B
  refine W_iconst B (hb hby at_237) (pc' := 238) rfl (z := (3 : Int32)) (by decide) ?_
  refine W_newarray B (ow hw (i := 0) rfl) (hb hby at_238) (pc' := 240) rfl (by decide) (cap := 3) (by decide) (by decide) (cells' := 24) rfl (slots' := 185) rfl (vs := [(.int (0 : Int32)), (.int (0 : Int32)), (.int (0 : Int32))]) rfl (ty := .int) rfl ?_
  intro T b260 B
  refine W_dup B (hb hby at_240) (pc' := 241) rfl rfl ?_
  refine W_iconst B (hb hby at_241) (pc' := 242) rfl (z := (0 : Int32)) (by decide) ?_
  refine W_iconst B (hb hby at_242) (pc' := 243) rfl (z := (0 : Int32)) (by decide) ?_
  refine W_iastore B (hb hby at_243) (pc' := 244) rfl (i := 0) rfl (by decide) (oLt rfl) (ds' := [(b260, oA .int [o0, o0, o0]), (b259, oA .int [o0, o0]), e244, e245, e246, e247, e248, e249, e250, e251, e252, e253, e254, e255, e256, e257, e258, (b241, oA .int [o0, o0, o0, o0, o0, o0]), (b240, oO cn3 [(fk14, .null), (fk15, (.int (0 : Int32))), (fk16, .null), (fk17, .null), (fk18, (.int (0 : Int32))), (fk19, .null), (fk20, .null), (fk21, .null), (fk22, .null), (fk23, .null), (fk24, .null)]), (b239, oA .int [(.int z235), (.int z237)]), (b234, oA .int [(.int a1), (.int a2), (.int a3), (.int a4)]), (b233, oA .int [o0, (.int (1 : Int32))])]) rfl ?_
  intro T B
  refine W_dup B (hb hby at_244) (pc' := 245) rfl rfl ?_
  refine W_iconst B (hb hby at_245) (pc' := 246) rfl (z := (1 : Int32)) (by decide) ?_
  refine W_iconst B (hb hby at_246) (pc' := 247) rfl (z := (1 : Int32)) (by decide) ?_
  refine W_iastore B (hb hby at_247) (pc' := 248) rfl (i := 0) rfl (by decide) (oLt rfl) (ds' := [(b260, oA .int [o0, (.int (1 : Int32)), o0]), (b259, oA .int [o0, o0]), e244, e245, e246, e247, e248, e249, e250, e251, e252, e253, e254, e255, e256, e257, e258, (b241, oA .int [o0, o0, o0, o0, o0, o0]), (b240, oO cn3 [(fk14, .null), (fk15, (.int (0 : Int32))), (fk16, .null), (fk17, .null), (fk18, (.int (0 : Int32))), (fk19, .null), (fk20, .null), (fk21, .null), (fk22, .null), (fk23, .null), (fk24, .null)]), (b239, oA .int [(.int z235), (.int z237)]), (b234, oA .int [(.int a1), (.int a2), (.int a3), (.int a4)]), (b233, oA .int [o0, (.int (1 : Int32))])]) rfl ?_
  intro T B
  refine W_dup B (hb hby at_248) (pc' := 249) rfl rfl ?_
  refine W_iconst B (hb hby at_249) (pc' := 250) rfl (z := (2 : Int32)) (by decide) ?_
  refine W_iconst B (hb hby at_250) (pc' := 251) rfl (z := (2 : Int32)) (by decide) ?_
  refine W_iastore B (hb hby at_251) (pc' := 252) rfl (i := 0) rfl (by decide) (oLt rfl) (ds' := [(b260, oA .int [o0, (.int (1 : Int32)), (.int (2 : Int32))]), (b259, oA .int [o0, o0]), e244, e245, e246, e247, e248, e249, e250, e251, e252, e253, e254, e255, e256, e257, e258, (b241, oA .int [o0, o0, o0, o0, o0, o0]), (b240, oO cn3 [(fk14, .null), (fk15, (.int (0 : Int32))), (fk16, .null), (fk17, .null), (fk18, (.int (0 : Int32))), (fk19, .null), (fk20, .null), (fk21, .null), (fk22, .null), (fk23, .null), (fk24, .null)]), (b239, oA .int [(.int z235), (.int z237)]), (b234, oA .int [(.int a1), (.int a2), (.int a3), (.int a4)]), (b233, oA .int [o0, (.int (1 : Int32))])]) rfl ?_
  intro T B
  refine W_init B (y := (⟨"com/example/tanglemark/tanglemark/datalog/FactoredRows", "<init>", "(I[I[I[ILcom/example/tanglemark/tanglemark/datalog/SharedSets;[I[I)V"⟩ : MethodName)) hown rfl (ow hw (i := 56) rfl) (ow hw (i := 57) rfl) (ow hw (i := 3) rfl) (ow hw (i := 58) rfl) (by decide) (a := b240) (rm_fr2 l Z a0 hw h0 b240 b233 b234 b241 b242 b259 b260 e244 e245 e246 e247 e248 e249 e250 e251 e252 e253 e254 e255 e256 e257 e258 (b241, oA .int [o0, o0, o0, o0, o0, o0]) (b239, oA .int [(.int z235), (.int z237)]) (b234, oA .int [(.int a1), (.int a2), (.int a3), (.int a4)]) []) (lenOf pd_4 rfl) (hb hby at_252) (pc' := 255) rfl (argsL := [(.int (3 : Int32)), (.ref b233), (.ref b234), (.ref b241), (.ref b242), (.ref b259), (.ref b260)]) (rest := [(.ref b240)]) rfl (by rw [hml]; rfl) (W := 1) (oLe rfl) (by decide) (cells' := 27) rfl (slots' := 194) rfl ?_
  intro T v_ d_ q_ B
  obtain ⟨b261, b262, b263, rfl, rfl⟩ := q_
  show oWin p e below Z h0 _ _ (T.setTop (mkF m 255 #[.val (.int a1), .val (.int a2), .val (.int a3), .val (.int a4), .val (.int a5), .val (.int a6), .val (.int (1 : Int32)), .val (.int (2 : Int32)), .val (.int z229), .val (.int z231), .val (.ref b233), .val (.ref b234), .val (.int (2 : Int32)), .val (.int a3), .val (.int a4), .val (.int z235), .val (.int z237), .val (.ref b239), .unset, .unset, .unset] [(.ref b240)]))
  refine W_astore B (hb hby at_255) (pc' := 257) rfl rfl (ls' := #[.val (.int a1), .val (.int a2), .val (.int a3), .val (.int a4), .val (.int a5), .val (.int a6), .val (.int (1 : Int32)), .val (.int (2 : Int32)), .val (.int z229), .val (.int z231), .val (.ref b233), .val (.ref b234), .val (.int (2 : Int32)), .val (.int a3), .val (.int a4), .val (.int z235), .val (.int z237), .val (.ref b239), .val (.ref b240), .unset, .unset]) rfl ?_
  refine W_aload B (hb hby at_257) (pc' := 259) rfl rfl rfl ?_
  refine W_iload B (hb hby at_259) (pc' := 261) rfl rfl ?_
  refine W_aload B (hb hby at_261) (pc' := 263) rfl rfl rfl ?_
  refine W_virtual B (y := (⟨"com/example/tanglemark/tanglemark/datalog/FactoredRows", "keyHas", "(I[I)Z"⟩ : MethodName)) (z := (⟨"com/example/tanglemark/tanglemark/datalog/FactoredRows", "keyHas", "(I[I)Z"⟩ : MethodName)) hown (ow hw (i := 98) rfl) (ow hw (i := 99) rfl) (oNotFace B (ow hw (i := 101) rfl) rfl) (ow hw (i := 101) rfl) (ow hw (i := 100) rfl) (ow hw (i := 3) rfl) (ow hw (i := 102) rfl) (by decide) (a := b240) (rm_kh21 l Z a0 hw h0 b240 b239 b233 b234 b241 b242 b259 b260 b261 b262 b263 a1 a2 a3 a4 z235 z237 (b261, oA .int [o0, (.int (1 : Int32))]) (b262, oA .int [o0, (.int (1 : Int32)), (.int (-1 : Int32))]) (b263, oO cn2 [(fk10, (.int (0 : Int32))), (fk11, (.int (0 : Int32))), (fk12, (.int (0 : Int32))), (fk13, (.int (0 : Int32)))]) (b260, oA .int [o0, (.int (1 : Int32)), (.int (2 : Int32))]) (b259, oA .int [o0, o0]) e244 e245 e246 e247 e248 e249 e250 e251 e252 e253 e254 e255 e256 e257 e258 (b241, oA .int [o0, o0, o0, o0, o0, o0]) []) (lenOf pd_5 rfl) (hb hby at_263) (pc' := 266) rfl (argsL := [(.int (1 : Int32)), (.ref b239)]) (rest := []) rfl (by rw [hml]; rfl) (W := 0) (oLe rfl) (j := 21) rfl (by decide) (cells' := 27) rfl (slots' := 194) rfl ?_
  intro T v_ d_ q_ B
  rcases q_ with ⟨q264, q265, rfl, rfl⟩ | ⟨q266, q267, rfl, rfl⟩ | ⟨q268, rfl, rfl⟩
  · show oWin p e below Z h0 _ _ (T.setTop (mkF m 266 #[.val (.int a1), .val (.int a2), .val (.int a3), .val (.int a4), .val (.int a5), .val (.int a6), .val (.int (1 : Int32)), .val (.int (2 : Int32)), .val (.int z229), .val (.int z231), .val (.ref b233), .val (.ref b234), .val (.int (2 : Int32)), .val (.int a3), .val (.int a4), .val (.int z235), .val (.int z237), .val (.ref b239), .val (.ref b240), .unset, .unset] [(.int (1 : Int32))]))
    refine W_istore B (hb hby at_266) (pc' := 268) rfl (v := (1 : Int32)) rfl (ls' := #[.val (.int a1), .val (.int a2), .val (.int a3), .val (.int a4), .val (.int a5), .val (.int a6), .val (.int (1 : Int32)), .val (.int (2 : Int32)), .val (.int z229), .val (.int z231), .val (.ref b233), .val (.ref b234), .val (.int (2 : Int32)), .val (.int a3), .val (.int a4), .val (.int z235), .val (.int z237), .val (.ref b239), .val (.ref b240), .val (.int (1 : Int32)), .unset]) rfl ?_
    refine W_iload B (hb hby at_268) (pc' := 270) rfl rfl ?_
    refine W_ifY B (hb hby at_270) (by decide) (pc' := 279) (by decide) (by decide) ?_
    refine W_iload B (hb hby at_279) (pc' := 281) rfl rfl ?_
    refine W_iconst B (hb hby at_281) (pc' := 282) rfl (z := (1 : Int32)) (by decide) ?_
    refine W_icmpY B (hb hby at_282) (by decide) (pc' := 302) (by decide) (by decide) ?_
    refine W_iload B (hb hby at_302) (pc' := 304) rfl rfl ?_
    refine W_iload B (hb hby at_304) (pc' := 306) rfl rfl ?_
    refine W_icmp_ne B (hb hby at_306) (by decide) (pt := 320) (by decide) (pc' := 309) rfl (fun (c269 : ¬ z235 = a3) => ?_) (fun (c269 : z235 = a3) => ?_)
    · refine W_iconst B (hb hby at_320) (pc' := 321) rfl (z := (0 : Int32)) (by decide) ?_
      refine W_istore B (hb hby at_321) (pc' := 323) rfl (v := (0 : Int32)) rfl (ls' := #[.val (.int a1), .val (.int a2), .val (.int a3), .val (.int a4), .val (.int a5), .val (.int a6), .val (.int (1 : Int32)), .val (.int (2 : Int32)), .val (.int z229), .val (.int z231), .val (.ref b233), .val (.ref b234), .val (.int (2 : Int32)), .val (.int a3), .val (.int a4), .val (.int z235), .val (.int z237), .val (.ref b239), .val (.ref b240), .val (.int (1 : Int32)), .val (.int (0 : Int32))]) rfl ?_
      refine W_iload B (hb hby at_323) (pc' := 325) rfl rfl ?_
      refine W_iload B (hb hby at_325) (pc' := 327) rfl rfl ?_
      refine W_icmpY B (hb hby at_327) (by decide) (pc' := 334) (by decide) (by decide) ?_
      refine W_iconst B (hb hby at_334) (pc' := 335) rfl (z := (0 : Int32)) (by decide) ?_
      refine W_retNW B hS hret (by simp) (hb hby at_335) (by decide) ?_
      exfalso
      have fq1 := orI a3
      have fq2 := orI z235
      have fq3 := oeqI q264
      have fq4 := orI a4
      have fq5 := orI z237
      have fq6 := oeqI q265
      have fq7 := oneI c269
      omega
    refine W_iload B (hb hby at_309) (pc' := 311) rfl rfl ?_
    refine W_iload B (hb hby at_311) (pc' := 313) rfl rfl ?_
    refine W_icmp_ne B (hb hby at_313) (by decide) (pt := 320) (by decide) (pc' := 316) rfl (fun (c270 : ¬ z237 = a4) => ?_) (fun (c270 : z237 = a4) => ?_)
    · refine W_iconst B (hb hby at_320) (pc' := 321) rfl (z := (0 : Int32)) (by decide) ?_
      refine W_istore B (hb hby at_321) (pc' := 323) rfl (v := (0 : Int32)) rfl (ls' := #[.val (.int a1), .val (.int a2), .val (.int a3), .val (.int a4), .val (.int a5), .val (.int a6), .val (.int (1 : Int32)), .val (.int (2 : Int32)), .val (.int z229), .val (.int z231), .val (.ref b233), .val (.ref b234), .val (.int (2 : Int32)), .val (.int a3), .val (.int a4), .val (.int z235), .val (.int z237), .val (.ref b239), .val (.ref b240), .val (.int (1 : Int32)), .val (.int (0 : Int32))]) rfl ?_
      refine W_iload B (hb hby at_323) (pc' := 325) rfl rfl ?_
      refine W_iload B (hb hby at_325) (pc' := 327) rfl rfl ?_
      refine W_icmpY B (hb hby at_327) (by decide) (pc' := 334) (by decide) (by decide) ?_
      refine W_iconst B (hb hby at_334) (pc' := 335) rfl (z := (0 : Int32)) (by decide) ?_
      refine W_retNW B hS hret (by simp) (hb hby at_335) (by decide) ?_
      exfalso
      have fq1 := orI a3
      have fq2 := orI z235
      have fq3 := oeqI q264
      have fq4 := orI a4
      have fq5 := orI z237
      have fq6 := oeqI q265
      have fq7 := oeqI c269
      have fq8 := oneI c270
      omega
    refine W_iconst B (hb hby at_316) (pc' := 317) rfl (z := (1 : Int32)) (by decide) ?_
    refine W_goto B (hb hby at_317) (by decide) (pc' := 321) (by decide) ?_
    refine W_istore B (hb hby at_321) (pc' := 323) rfl (v := (1 : Int32)) rfl (ls' := #[.val (.int a1), .val (.int a2), .val (.int a3), .val (.int a4), .val (.int a5), .val (.int a6), .val (.int (1 : Int32)), .val (.int (2 : Int32)), .val (.int z229), .val (.int z231), .val (.ref b233), .val (.ref b234), .val (.int (2 : Int32)), .val (.int a3), .val (.int a4), .val (.int z235), .val (.int z237), .val (.ref b239), .val (.ref b240), .val (.int (1 : Int32)), .val (.int (1 : Int32))]) rfl ?_
    refine W_iload B (hb hby at_323) (pc' := 325) rfl rfl ?_
    refine W_iload B (hb hby at_325) (pc' := 327) rfl rfl ?_
    refine W_icmpN B (hb hby at_327) (pc' := 330) rfl (by decide) ?_
    refine W_iconst B (hb hby at_330) (pc' := 331) rfl (z := (1 : Int32)) (by decide) ?_
    refine W_goto B (hb hby at_331) (by decide) (pc' := 335) (by decide) ?_
    refine W_retNW B hS hret (by simp) (hb hby at_335) (by decide) ?_
    rfl
  · show oWin p e below Z h0 _ _ (T.setTop (mkF m 266 #[.val (.int a1), .val (.int a2), .val (.int a3), .val (.int a4), .val (.int a5), .val (.int a6), .val (.int (1 : Int32)), .val (.int (2 : Int32)), .val (.int z229), .val (.int z231), .val (.ref b233), .val (.ref b234), .val (.int (2 : Int32)), .val (.int a3), .val (.int a4), .val (.int z235), .val (.int z237), .val (.ref b239), .val (.ref b240), .unset, .unset] [(.int (0 : Int32))]))
    refine W_istore B (hb hby at_266) (pc' := 268) rfl (v := (0 : Int32)) rfl (ls' := #[.val (.int a1), .val (.int a2), .val (.int a3), .val (.int a4), .val (.int a5), .val (.int a6), .val (.int (1 : Int32)), .val (.int (2 : Int32)), .val (.int z229), .val (.int z231), .val (.ref b233), .val (.ref b234), .val (.int (2 : Int32)), .val (.int a3), .val (.int a4), .val (.int z235), .val (.int z237), .val (.ref b239), .val (.ref b240), .val (.int (0 : Int32)), .unset]) rfl ?_
    refine W_iload B (hb hby at_268) (pc' := 270) rfl rfl ?_
    refine W_ifY B (hb hby at_270) (by decide) (pc' := 279) (by decide) (by decide) ?_
    refine W_iload B (hb hby at_279) (pc' := 281) rfl rfl ?_
    refine W_iconst B (hb hby at_281) (pc' := 282) rfl (z := (1 : Int32)) (by decide) ?_
    refine W_icmpY B (hb hby at_282) (by decide) (pc' := 302) (by decide) (by decide) ?_
    refine W_iload B (hb hby at_302) (pc' := 304) rfl rfl ?_
    refine W_iload B (hb hby at_304) (pc' := 306) rfl rfl ?_
    refine W_icmp_ne B (hb hby at_306) (by decide) (pt := 320) (by decide) (pc' := 309) rfl (fun (c271 : ¬ z235 = a3) => ?_) (fun (c271 : z235 = a3) => ?_)
    · refine W_iconst B (hb hby at_320) (pc' := 321) rfl (z := (0 : Int32)) (by decide) ?_
      refine W_istore B (hb hby at_321) (pc' := 323) rfl (v := (0 : Int32)) rfl (ls' := #[.val (.int a1), .val (.int a2), .val (.int a3), .val (.int a4), .val (.int a5), .val (.int a6), .val (.int (1 : Int32)), .val (.int (2 : Int32)), .val (.int z229), .val (.int z231), .val (.ref b233), .val (.ref b234), .val (.int (2 : Int32)), .val (.int a3), .val (.int a4), .val (.int z235), .val (.int z237), .val (.ref b239), .val (.ref b240), .val (.int (0 : Int32)), .val (.int (0 : Int32))]) rfl ?_
      refine W_iload B (hb hby at_323) (pc' := 325) rfl rfl ?_
      refine W_iload B (hb hby at_325) (pc' := 327) rfl rfl ?_
      refine W_icmpN B (hb hby at_327) (pc' := 330) rfl (by decide) ?_
      refine W_iconst B (hb hby at_330) (pc' := 331) rfl (z := (1 : Int32)) (by decide) ?_
      refine W_goto B (hb hby at_331) (by decide) (pc' := 335) (by decide) ?_
      refine W_retNW B hS hret (by simp) (hb hby at_335) (by decide) ?_
      rfl
    refine W_iload B (hb hby at_309) (pc' := 311) rfl rfl ?_
    refine W_iload B (hb hby at_311) (pc' := 313) rfl rfl ?_
    refine W_icmp_ne B (hb hby at_313) (by decide) (pt := 320) (by decide) (pc' := 316) rfl (fun (c272 : ¬ z237 = a4) => ?_) (fun (c272 : z237 = a4) => ?_)
    · refine W_iconst B (hb hby at_320) (pc' := 321) rfl (z := (0 : Int32)) (by decide) ?_
      refine W_istore B (hb hby at_321) (pc' := 323) rfl (v := (0 : Int32)) rfl (ls' := #[.val (.int a1), .val (.int a2), .val (.int a3), .val (.int a4), .val (.int a5), .val (.int a6), .val (.int (1 : Int32)), .val (.int (2 : Int32)), .val (.int z229), .val (.int z231), .val (.ref b233), .val (.ref b234), .val (.int (2 : Int32)), .val (.int a3), .val (.int a4), .val (.int z235), .val (.int z237), .val (.ref b239), .val (.ref b240), .val (.int (0 : Int32)), .val (.int (0 : Int32))]) rfl ?_
      refine W_iload B (hb hby at_323) (pc' := 325) rfl rfl ?_
      refine W_iload B (hb hby at_325) (pc' := 327) rfl rfl ?_
      refine W_icmpN B (hb hby at_327) (pc' := 330) rfl (by decide) ?_
      refine W_iconst B (hb hby at_330) (pc' := 331) rfl (z := (1 : Int32)) (by decide) ?_
      refine W_goto B (hb hby at_331) (by decide) (pc' := 335) (by decide) ?_
      refine W_retNW B hS hret (by simp) (hb hby at_335) (by decide) ?_
      rfl
    refine W_iconst B (hb hby at_316) (pc' := 317) rfl (z := (1 : Int32)) (by decide) ?_
    refine W_goto B (hb hby at_317) (by decide) (pc' := 321) (by decide) ?_
    refine W_istore B (hb hby at_321) (pc' := 323) rfl (v := (1 : Int32)) rfl (ls' := #[.val (.int a1), .val (.int a2), .val (.int a3), .val (.int a4), .val (.int a5), .val (.int a6), .val (.int (1 : Int32)), .val (.int (2 : Int32)), .val (.int z229), .val (.int z231), .val (.ref b233), .val (.ref b234), .val (.int (2 : Int32)), .val (.int a3), .val (.int a4), .val (.int z235), .val (.int z237), .val (.ref b239), .val (.ref b240), .val (.int (0 : Int32)), .val (.int (1 : Int32))]) rfl ?_
    refine W_iload B (hb hby at_323) (pc' := 325) rfl rfl ?_
    refine W_iload B (hb hby at_325) (pc' := 327) rfl rfl ?_
    refine W_icmpY B (hb hby at_327) (by decide) (pc' := 334) (by decide) (by decide) ?_
    refine W_iconst B (hb hby at_334) (pc' := 335) rfl (z := (0 : Int32)) (by decide) ?_
    refine W_retNW B hS hret (by simp) (hb hby at_335) (by decide) ?_
    exfalso
    have fq1 := orI a3
    have fq2 := orI z235
    have fq3 := oeqI q266
    have fq4 := orI a4
    have fq5 := orI z237
    have fq6 := oneI q267
    have fq7 := oeqI c271
    have fq8 := oeqI c272
    omega
  show oWin p e below Z h0 _ _ (T.setTop (mkF m 266 #[.val (.int a1), .val (.int a2), .val (.int a3), .val (.int a4), .val (.int a5), .val (.int a6), .val (.int (1 : Int32)), .val (.int (2 : Int32)), .val (.int z229), .val (.int z231), .val (.ref b233), .val (.ref b234), .val (.int (2 : Int32)), .val (.int a3), .val (.int a4), .val (.int z235), .val (.int z237), .val (.ref b239), .val (.ref b240), .unset, .unset] [(.int (0 : Int32))]))
  refine W_istore B (hb hby at_266) (pc' := 268) rfl (v := (0 : Int32)) rfl (ls' := #[.val (.int a1), .val (.int a2), .val (.int a3), .val (.int a4), .val (.int a5), .val (.int a6), .val (.int (1 : Int32)), .val (.int (2 : Int32)), .val (.int z229), .val (.int z231), .val (.ref b233), .val (.ref b234), .val (.int (2 : Int32)), .val (.int a3), .val (.int a4), .val (.int z235), .val (.int z237), .val (.ref b239), .val (.ref b240), .val (.int (0 : Int32)), .unset]) rfl ?_
  refine W_iload B (hb hby at_268) (pc' := 270) rfl rfl ?_
  refine W_ifY B (hb hby at_270) (by decide) (pc' := 279) (by decide) (by decide) ?_
  refine W_iload B (hb hby at_279) (pc' := 281) rfl rfl ?_
  refine W_iconst B (hb hby at_281) (pc' := 282) rfl (z := (1 : Int32)) (by decide) ?_
  refine W_icmpY B (hb hby at_282) (by decide) (pc' := 302) (by decide) (by decide) ?_
  refine W_iload B (hb hby at_302) (pc' := 304) rfl rfl ?_
  refine W_iload B (hb hby at_304) (pc' := 306) rfl rfl ?_
  refine W_icmp_ne B (hb hby at_306) (by decide) (pt := 320) (by decide) (pc' := 309) rfl (fun (c273 : ¬ z235 = a3) => ?_) (fun (c273 : z235 = a3) => ?_)
  · refine W_iconst B (hb hby at_320) (pc' := 321) rfl (z := (0 : Int32)) (by decide) ?_
    refine W_istore B (hb hby at_321) (pc' := 323) rfl (v := (0 : Int32)) rfl (ls' := #[.val (.int a1), .val (.int a2), .val (.int a3), .val (.int a4), .val (.int a5), .val (.int a6), .val (.int (1 : Int32)), .val (.int (2 : Int32)), .val (.int z229), .val (.int z231), .val (.ref b233), .val (.ref b234), .val (.int (2 : Int32)), .val (.int a3), .val (.int a4), .val (.int z235), .val (.int z237), .val (.ref b239), .val (.ref b240), .val (.int (0 : Int32)), .val (.int (0 : Int32))]) rfl ?_
    refine W_iload B (hb hby at_323) (pc' := 325) rfl rfl ?_
    refine W_iload B (hb hby at_325) (pc' := 327) rfl rfl ?_
    refine W_icmpN B (hb hby at_327) (pc' := 330) rfl (by decide) ?_
    refine W_iconst B (hb hby at_330) (pc' := 331) rfl (z := (1 : Int32)) (by decide) ?_
    refine W_goto B (hb hby at_331) (by decide) (pc' := 335) (by decide) ?_
    refine W_retNW B hS hret (by simp) (hb hby at_335) (by decide) ?_
    rfl
  refine W_iload B (hb hby at_309) (pc' := 311) rfl rfl ?_
  refine W_iload B (hb hby at_311) (pc' := 313) rfl rfl ?_
  refine W_icmp_ne B (hb hby at_313) (by decide) (pt := 320) (by decide) (pc' := 316) rfl (fun (c274 : ¬ z237 = a4) => ?_) (fun (c274 : z237 = a4) => ?_)
  · refine W_iconst B (hb hby at_320) (pc' := 321) rfl (z := (0 : Int32)) (by decide) ?_
    refine W_istore B (hb hby at_321) (pc' := 323) rfl (v := (0 : Int32)) rfl (ls' := #[.val (.int a1), .val (.int a2), .val (.int a3), .val (.int a4), .val (.int a5), .val (.int a6), .val (.int (1 : Int32)), .val (.int (2 : Int32)), .val (.int z229), .val (.int z231), .val (.ref b233), .val (.ref b234), .val (.int (2 : Int32)), .val (.int a3), .val (.int a4), .val (.int z235), .val (.int z237), .val (.ref b239), .val (.ref b240), .val (.int (0 : Int32)), .val (.int (0 : Int32))]) rfl ?_
    refine W_iload B (hb hby at_323) (pc' := 325) rfl rfl ?_
    refine W_iload B (hb hby at_325) (pc' := 327) rfl rfl ?_
    refine W_icmpN B (hb hby at_327) (pc' := 330) rfl (by decide) ?_
    refine W_iconst B (hb hby at_330) (pc' := 331) rfl (z := (1 : Int32)) (by decide) ?_
    refine W_goto B (hb hby at_331) (by decide) (pc' := 335) (by decide) ?_
    refine W_retNW B hS hret (by simp) (hb hby at_335) (by decide) ?_
    rfl
  refine W_iconst B (hb hby at_316) (pc' := 317) rfl (z := (1 : Int32)) (by decide) ?_
  refine W_goto B (hb hby at_317) (by decide) (pc' := 321) (by decide) ?_
  refine W_istore B (hb hby at_321) (pc' := 323) rfl (v := (1 : Int32)) rfl (ls' := #[.val (.int a1), .val (.int a2), .val (.int a3), .val (.int a4), .val (.int a5), .val (.int a6), .val (.int (1 : Int32)), .val (.int (2 : Int32)), .val (.int z229), .val (.int z231), .val (.ref b233), .val (.ref b234), .val (.int (2 : Int32)), .val (.int a3), .val (.int a4), .val (.int z235), .val (.int z237), .val (.ref b239), .val (.ref b240), .val (.int (0 : Int32)), .val (.int (1 : Int32))]) rfl ?_
  refine W_iload B (hb hby at_323) (pc' := 325) rfl rfl ?_
  refine W_iload B (hb hby at_325) (pc' := 327) rfl rfl ?_
  refine W_icmpY B (hb hby at_327) (by decide) (pc' := 334) (by decide) (by decide) ?_
  refine W_iconst B (hb hby at_334) (pc' := 335) rfl (z := (0 : Int32)) (by decide) ?_
  refine W_retNW B hS hret (by simp) (hb hby at_335) (by decide) ?_
  exfalso
  have fq1 := orI a3
  have fq2 := orI z235
  have fq3 := oneI q268
  have fq4 := oeqI c273
  have fq5 := orI z237
  have fq6 := orI a4
  have fq7 := oeqI c274
  omega
set_option maxRecDepth 65536 in
set_option maxHeartbeats 40000000 in
theorem comes_1 {Post : Tables → Env → Array Value → State → Outcome → State → Prop} (hpost : ∀ tb e args s v u, (limb_1_1.after args s (.returned v) u = true ∧ limb_1_2.after args s (.returned v) u = true ∧ True) → ReturnedEndW s (.returned v) u (Jvm.fieldLocs frame_1_writes args s ++ Jvm.arrayLocs frame_1_arrays args s ++ Jvm.staticLocs frame_1_statics s) 64 1472 → Post tb e args s (.returned v) u) :
    ArmFor flags0 classFile x code maxLocals ret World_1 tables_1 room_1 Calls_1 rest_1 Pre_1 Post := by
  intro l hfl _ _ p e ha hc hk s m args below hf hA hF happ hP
  obtain ⟨hcalls, hrest, hpre⟩ := hP
  obtain ⟨-, -, -, hnamed, -, -, -, hat⟩ := (Spec.applies_iff hf).mp happ
  obtain ⟨hg, hn⟩ := and_e (Cond.before_iff.mp (show (Jvm.Cond.and given_1 narrow_1).before args s = true from hpre))
  obtain ⟨g1, g2⟩ := and_e hg
  obtain ⟨g3, g4⟩ := and_e g2
  obtain ⟨g5, g6⟩ := and_e g4
  obtain ⟨g7, g8⟩ := and_e g6
  obtain ⟨g9, g10⟩ := and_e g8
  obtain ⟨g11, g12⟩ := and_e g10
  obtain ⟨w0, w1, w2, w3, w4, w5, rfl⟩ : ∃ w0 w1 w2 w3 w4 w5 : Value, args = #[w0, w1, w2, w3, w4, w5] := by
    have hs : args.size = 6 := by simpa [Cond.value, given_1] using g1
    obtain ⟨L⟩ := args
    match L, hs with
    | [w0, w1, w2, w3, w4, w5], _ => exact ⟨w0, w1, w2, w3, w4, w5, rfl⟩
  have hw := fun d (hd : d ∈ tables_1) => atoms_spec (ws := Jvm.Cond.code x code maxLocals ret :: tables_1) hat d (List.mem_cons_of_mem _ hd)
  have hfit : Fit s := fun {y c} hc i hi => by
    obtain ⟨ha, rfl⟩ := Array.getElem?_eq_some_iff.mp hc
    have q := List.all_eq_true.mp ((Array.all_eq_true_iff_forall_mem.mp hF) _ (Array.getElem_mem ha)) i (List.mem_range.mpr hi)
    simpa [Array.getElem?_eq_getElem hi] using q
  obtain ⟨i0, ei0⟩ := is_v g3
  obtain rfl : w0 = (.int i0) := Option.some.inj ei0
  obtain ⟨i1, ei1⟩ := is_v g5
  obtain rfl : w1 = (.int i1) := Option.some.inj ei1
  obtain ⟨i2, ei2⟩ := is_v g7
  obtain rfl : w2 = (.int i2) := Option.some.inj ei2
  obtain ⟨i3, ei3⟩ := is_v g9
  obtain rfl : w3 = (.int i3) := Option.some.inj ei3
  obtain ⟨i4, ei4⟩ := is_v g11
  obtain rfl : w4 = (.int i4) := Option.some.inj ei4
  obtain ⟨i5, ei5⟩ := is_v g12
  obtain rfl : w5 = (.int i5) := Option.some.inj ei5
  obtain ⟨n, o, h1, h2, h3, _, L, rfl, ⟨N, lo', ds', -, rfl⟩, hq⟩ := rm0 l s _ hw s.heap i0 i1 i2 i3 i4 i5  s.heap (oHP.nil s s.heap) p e ha hc hk s m _ below hf ((Spec.applies_iff_loose hf).mp happ).1 ⟨rfl, State.Warmed39.refl s, rfl⟩ trivial
  refine ⟨n, _, h1, h2, h3, hpost _ _ _ _ _ _ ⟨Cond.after_iff.mpr rfl, Cond.after_iff.mpr (eq_i res_at (Term.int_eval (1)) rfl), trivial⟩ ⟨hq.1, hq.2.1, hq.2.2.1, (hq.2.2.2.sift fun y hy => Or.inr (N y hy)).mono (by decide) (by decide)⟩⟩
theorem main_1_1 : Claimed_1_1 := comes_1 fun _ _ _ _ _ _ h hF => ⟨h.1, hF⟩
theorem main_1_2 : Claimed_1_2 := comes_1 fun _ _ _ _ _ _ h hF => ⟨h.2.1, hF⟩
end Jvm.Pilot.@@N@@
namespace Jvm.Pilot.@@N@@
open Jvm Jvm.ClassFile Sem Op Lib Jvm.Free Jvm.Stand Jvm.Pilot.@@N@@.Jvm.D
/-! MADE BY PROGRAM (witnessworld.py) out of the Statement's table words and the real class files: 18 classes; the members and pool entries that the words name. The judged class is class 1, her method 1. -/
namespace start1
open Jvm.ClassFile
def u (s : String) : CpInfo := .utf8 (stringToUtf16 s)
/-- a pool by its gaps: so many unusable entries, then the entry; so many at the end -/
def gap : Nat → List CpInfo → List CpInfo
  | 0, r => r
  | n + 1, r => .unusable :: gap n r
def poolList (es : List (Nat × CpInfo)) (last : Nat) : List CpInfo := es.foldr (fun e r => gap e.1 (e.2 :: r)) (gap last [])
def pool (es : List (Nat × CpInfo)) (last : Nat) : Array CpInfo := ⟨poolList es last⟩
def fileOf (pool : Array CpInfo) (this : Nat) (attrs : Array Attribute := #[]) (ms : Array MethodInfo := #[]) (fl : Nat := 33) (sup : Nat := 0) (ifs : Array Nat := #[]) (fds : Array FieldInfo := #[]) : ClassFile where
  minorVersion := 0
  majorVersion := 65
  constantPool := pool
  accessFlags := fl
  thisClass := this
  superClass := sup
  interfaces := ifs
  fields := fds
  methods := ms
  attributes := attrs
def plain (name : String) (sup : Option ClassId) : Class where
  name := name
  kind := .ordinary
  loader := none
  accessFlags := 33
  super := sup
  interfaces := #[]
  cf := none
  fields := #[]
  methods := #[]
  instanceTypes := #[]
  staticTypes := #[]
  resolved := #[]
  callSites := []
  init := .initialized
  statics := none
  mirror := none

def pool0 : Array CpInfo := pool [(5, u "<init>"), (0, u "()V"), (1, .class_ 10), (1, u "java/lang/Object")] 113

def k0c0 : Code := { maxStack := 0, maxLocals := 1, code := object_method_1_code, exceptionTable := #[], attributes := #[] }
def k0m0 : Method := { name := "<init>", desc := "()V", sig := { parameters := [], returnType := none }, accessFlags := 1, code := some k0c0 }
/-- java/lang/Object -/
def k0 : Class := { plain "java/lang/Object" none with
  accessFlags := 33
  interfaces := #[]
  cf := some (fileOf pool0 8 #[] #[{ accessFlags := 1, nameIndex := 5, descriptorIndex := 6, attributes := #[] }] 33 0 #[] #[])
  fields := #[]
  methods := #[k0m0]
  instanceTypes := #[]
  staticTypes := #[]
  resolved := Array.replicate 124 none
  statics := none }

def pool1 : Array CpInfo := pool [(2, .class_ 4), (1, u "java/lang/Object"), (0, u "<init>"), (0, u "()V"), (0, .class_ 8), (0, u "com/example/tanglemark/tanglemark/datalog/FactoredRows"), (0, .class_ 10), (0, u "com/example/tanglemark/tanglemark/datalog/SharedSets"), (0, .string 12), (0, u "o"), (0, .methodref 9 14), (0, .nameAndType 5 15), (0, u "(Ljava/lang/String;)V"), (0, .methodref 7 17), (0, .nameAndType 5 18), (0, u "(I[I[I[ILcom/example/tanglemark/tanglemark/datalog/SharedSets;[I[I)V"), (0, .methodref 7 20), (0, .nameAndType 21 22), (0, u "keyHas"), (0, u "(I[I)Z"), (0, .class_ 24), (0, u "com/example/tanglemark/tanglemark/datalog/FactoredRowsKeyHasPinLaw"), (2, u "law"), (0, u "(IIIIII)Z")] 5

def k1m0 : Method := { name := "<init>", desc := "()V", sig := { parameters := [], returnType := none }, accessFlags := 1, code := none }
def k1c1 : Code := { maxStack := 12, maxLocals := 21, code := code, exceptionTable := #[], attributes := #[] }
def k1m1 : Method := { name := "law", desc := "(IIIIII)Z", sig := { parameters := [.int, .int, .int, .int, .int, .int], returnType := some .boolean }, accessFlags := 9, code := some k1c1 }
/-- com/example/tanglemark/tanglemark/datalog/FactoredRowsKeyHasPinLaw -/
def k1 : Class := { plain "com/example/tanglemark/tanglemark/datalog/FactoredRowsKeyHasPinLaw" (some 0) with
  accessFlags := 49
  interfaces := #[]
  cf := some (fileOf pool1 23 #[] #[{ accessFlags := 1, nameIndex := 5, descriptorIndex := 6, attributes := #[] }, { accessFlags := 9, nameIndex := 27, descriptorIndex := 28, attributes := #[] }] 49 2 #[] #[])
  fields := #[]
  methods := #[k1m0, k1m1]
  instanceTypes := #[]
  staticTypes := #[]
  resolved := Array.replicate 34 none
  statics := none }

def pool2 : Array CpInfo := pool [(1, .methodref 2 3), (0, .class_ 4), (0, .nameAndType 5 6), (0, u "java/lang/Object"), (0, u "<init>"), (0, u "()V"), (0, .class_ 8), (0, u "com/example/tanglemark/tanglemark/datalog/FactoredRows$Stretch"), (0, .methodref 7 10), (0, .nameAndType 5 11), (0, u "(IIII)V"), (0, .fieldref 13 14), (0, .class_ 15), (0, .nameAndType 16 17), (0, u "com/example/tanglemark/tanglemark/datalog/FactoredRows"), (0, u "last"), (0, u "Lcom/example/tanglemark/tanglemark/datalog/FactoredRows$Stretch;"), (0, .fieldref 13 19), (0, .nameAndType 20 21), (0, u "arity"), (0, u "I"), (0, .fieldref 13 23), (0, .nameAndType 24 25), (0, u "keyColumns"), (0, u "[I"), (0, .fieldref 13 27), (0, .nameAndType 28 25), (0, u "place"), (0, .fieldref 13 30), (0, .nameAndType 31 21), (0, u "carriedColumns"), (0, .fieldref 13 33), (0, .nameAndType 34 25), (0, u "keyValues"), (0, .fieldref 13 36), (0, .nameAndType 37 25), (0, u "carriedValues"), (0, .fieldref 13 39), (0, .nameAndType 40 41), (0, u "sets"), (0, u "Lcom/example/tanglemark/tanglemark/datalog/SharedSets;"), (0, .fieldref 13 43), (0, .nameAndType 44 25), (0, u "setOf"), (0, .fieldref 13 46), (0, .nameAndType 47 25), (0, u "start"), (0, .long 64), (1, .fieldref 13 51), (0, .nameAndType 52 25), (0, u "blockKey"), (54, u "BLOCK_BITS"), (2, u "(I[I[I[ILcom/example/tanglemark/tanglemark/datalog/SharedSets;[I[I)V"), (8, u "keyHas"), (0, u "(I[I)Z")] 6

def k2c0 : Code := { maxStack := 7, maxLocals := 13, code := prog_13_method_1_code, exceptionTable := #[], attributes := #[] }
def k2m0 : Method := { name := "<init>", desc := "(I[I[I[ILcom/example/tanglemark/tanglemark/datalog/SharedSets;[I[I)V", sig := { parameters := [.int, (.array .int), (.array .int), (.array .int), (.object "com/example/tanglemark/tanglemark/datalog/SharedSets"), (.array .int), (.array .int)], returnType := none }, accessFlags := 0, code := some k2c0 }
def k2c1 : Code := { maxStack := 3, maxLocals := 4, code := prog_13_method_9_code, exceptionTable := #[], attributes := #[] }
def k2m1 : Method := { name := "keyHas", desc := "(I[I)Z", sig := { parameters := [.int, (.array .int)], returnType := some .boolean }, accessFlags := 0, code := some k2c1 }
/-- com/example/tanglemark/tanglemark/datalog/FactoredRows -/
def k2 : Class := { plain "com/example/tanglemark/tanglemark/datalog/FactoredRows" (some 0) with
  accessFlags := 48
  interfaces := #[]
  cf := some (fileOf pool2 13 #[.nestMembers #[7]] #[{ accessFlags := 0, nameIndex := 5, descriptorIndex := 110, attributes := #[] }, { accessFlags := 0, nameIndex := 119, descriptorIndex := 120, attributes := #[] }] 48 2 #[] #[{ accessFlags := 26, nameIndex := 107, descriptorIndex := 21, attributes := #[] }, { accessFlags := 18, nameIndex := 20, descriptorIndex := 21, attributes := #[] }, { accessFlags := 18, nameIndex := 24, descriptorIndex := 25, attributes := #[] }, { accessFlags := 18, nameIndex := 28, descriptorIndex := 25, attributes := #[] }, { accessFlags := 18, nameIndex := 31, descriptorIndex := 21, attributes := #[] }, { accessFlags := 18, nameIndex := 34, descriptorIndex := 25, attributes := #[] }, { accessFlags := 18, nameIndex := 37, descriptorIndex := 25, attributes := #[] }, { accessFlags := 18, nameIndex := 40, descriptorIndex := 41, attributes := #[] }, { accessFlags := 18, nameIndex := 44, descriptorIndex := 25, attributes := #[] }, { accessFlags := 18, nameIndex := 47, descriptorIndex := 25, attributes := #[] }, { accessFlags := 18, nameIndex := 52, descriptorIndex := 25, attributes := #[] }, { accessFlags := 2, nameIndex := 16, descriptorIndex := 17, attributes := #[] }])
  fields := #[{ name := "BLOCK_BITS", type := .int, accessFlags := 26, slot := 0, constantValue := 0 }, { name := "arity", type := .int, accessFlags := 18, slot := 0, constantValue := 0 }, { name := "keyColumns", type := (.array .int), accessFlags := 18, slot := 1, constantValue := 0 }, { name := "place", type := (.array .int), accessFlags := 18, slot := 2, constantValue := 0 }, { name := "carriedColumns", type := .int, accessFlags := 18, slot := 3, constantValue := 0 }, { name := "keyValues", type := (.array .int), accessFlags := 18, slot := 4, constantValue := 0 }, { name := "carriedValues", type := (.array .int), accessFlags := 18, slot := 5, constantValue := 0 }, { name := "sets", type := (.object "com/example/tanglemark/tanglemark/datalog/SharedSets"), accessFlags := 18, slot := 6, constantValue := 0 }, { name := "setOf", type := (.array .int), accessFlags := 18, slot := 7, constantValue := 0 }, { name := "start", type := (.array .int), accessFlags := 18, slot := 8, constantValue := 0 }, { name := "blockKey", type := (.array .int), accessFlags := 18, slot := 9, constantValue := 0 }, { name := "last", type := (.object "com/example/tanglemark/tanglemark/datalog/FactoredRows$Stretch"), accessFlags := 2, slot := 10, constantValue := 0 }]
  methods := #[k2m0, k2m1]
  instanceTypes := #[.int, (.array .int), (.array .int), .int, (.array .int), (.array .int), (.object "com/example/tanglemark/tanglemark/datalog/SharedSets"), (.array .int), (.array .int), (.array .int), (.object "com/example/tanglemark/tanglemark/datalog/FactoredRows$Stretch")]
  staticTypes := #[.int]
  resolved := Array.replicate 127 none
  statics := none }

def pool3 : Array CpInfo := pool [(1, .methodref 2 3), (0, .class_ 4), (0, .nameAndType 5 6), (0, u "java/lang/Object"), (0, u "<init>"), (0, u "()V"), (0, .class_ 8), (0, u "com/example/tanglemark/tanglemark/datalog/Ints"), (0, .methodref 7 10), (0, .nameAndType 5 11), (0, u "(Ljava/lang/String;)V"), (0, .fieldref 13 14), (0, .class_ 15), (0, .nameAndType 16 17), (0, u "com/example/tanglemark/tanglemark/datalog/SharedSets"), (0, u "values"), (0, u "Lcom/example/tanglemark/tanglemark/datalog/Ints;"), (0, .fieldref 13 19), (0, .nameAndType 20 17), (0, u "from"), (0, .fieldref 13 22), (0, .nameAndType 23 17), (0, u "base"), (0, .fieldref 13 25), (0, .nameAndType 26 17), (0, u "size"), (0, .fieldref 13 28), (0, .nameAndType 29 17), (0, u "parent"), (0, .fieldref 13 31), (0, .nameAndType 32 17), (0, u "root"), (0, .fieldref 13 34), (0, .nameAndType 35 17), (0, u "depth"), (2, u "I"), (24, u "MAX_DEPTH")] 9

def k3c0 : Code := { maxStack := 4, maxLocals := 2, code := prog_52_method_1_code, exceptionTable := #[], attributes := #[] }
def k3m0 : Method := { name := "<init>", desc := "(Ljava/lang/String;)V", sig := { parameters := [(.object "java/lang/String")], returnType := none }, accessFlags := 0, code := some k3c0 }
/-- com/example/tanglemark/tanglemark/datalog/SharedSets -/
def k3 : Class := { plain "com/example/tanglemark/tanglemark/datalog/SharedSets" (some 0) with
  accessFlags := 48
  interfaces := #[]
  cf := some (fileOf pool3 13 #[] #[{ accessFlags := 0, nameIndex := 5, descriptorIndex := 11, attributes := #[] }] 48 2 #[] #[{ accessFlags := 24, nameIndex := 63, descriptorIndex := 38, attributes := #[] }, { accessFlags := 18, nameIndex := 16, descriptorIndex := 17, attributes := #[] }, { accessFlags := 18, nameIndex := 20, descriptorIndex := 17, attributes := #[] }, { accessFlags := 18, nameIndex := 23, descriptorIndex := 17, attributes := #[] }, { accessFlags := 18, nameIndex := 26, descriptorIndex := 17, attributes := #[] }, { accessFlags := 18, nameIndex := 29, descriptorIndex := 17, attributes := #[] }, { accessFlags := 18, nameIndex := 32, descriptorIndex := 17, attributes := #[] }, { accessFlags := 18, nameIndex := 35, descriptorIndex := 17, attributes := #[] }])
  fields := #[{ name := "MAX_DEPTH", type := .int, accessFlags := 24, slot := 0, constantValue := 0 }, { name := "values", type := (.object "com/example/tanglemark/tanglemark/datalog/Ints"), accessFlags := 18, slot := 0, constantValue := 0 }, { name := "from", type := (.object "com/example/tanglemark/tanglemark/datalog/Ints"), accessFlags := 18, slot := 1, constantValue := 0 }, { name := "base", type := (.object "com/example/tanglemark/tanglemark/datalog/Ints"), accessFlags := 18, slot := 2, constantValue := 0 }, { name := "size", type := (.object "com/example/tanglemark/tanglemark/datalog/Ints"), accessFlags := 18, slot := 3, constantValue := 0 }, { name := "parent", type := (.object "com/example/tanglemark/tanglemark/datalog/Ints"), accessFlags := 18, slot := 4, constantValue := 0 }, { name := "root", type := (.object "com/example/tanglemark/tanglemark/datalog/Ints"), accessFlags := 18, slot := 5, constantValue := 0 }, { name := "depth", type := (.object "com/example/tanglemark/tanglemark/datalog/Ints"), accessFlags := 18, slot := 6, constantValue := 0 }]
  methods := #[k3m0]
  instanceTypes := #[(.object "com/example/tanglemark/tanglemark/datalog/Ints"), (.object "com/example/tanglemark/tanglemark/datalog/Ints"), (.object "com/example/tanglemark/tanglemark/datalog/Ints"), (.object "com/example/tanglemark/tanglemark/datalog/Ints"), (.object "com/example/tanglemark/tanglemark/datalog/Ints"), (.object "com/example/tanglemark/tanglemark/datalog/Ints"), (.object "com/example/tanglemark/tanglemark/datalog/Ints")]
  staticTypes := #[.int]
  resolved := Array.replicate 73 none
  statics := none }

def pool4 : Array CpInfo := pool [(1, .class_ 2), (0, u "java/io/Serializable"), (0, .class_ 4), (0, u "java/lang/Object")] 2

/-- java/io/Serializable -/
def k4 : Class := { plain "java/io/Serializable" (some 0) with
  accessFlags := 1537
  interfaces := #[]
  cf := some (fileOf pool4 1 #[] #[] 1537 3 #[] #[])
  fields := #[]
  methods := #[]
  instanceTypes := #[]
  staticTypes := #[]
  resolved := Array.replicate 7 none
  statics := none }

def pool5 : Array CpInfo := pool [(1, .class_ 2), (0, u "java/lang/Comparable"), (0, .class_ 4), (0, u "java/lang/Object")] 7

/-- java/lang/Comparable -/
def k5 : Class := { plain "java/lang/Comparable" (some 0) with
  accessFlags := 1537
  interfaces := #[]
  cf := some (fileOf pool5 1 #[] #[] 1537 3 #[] #[])
  fields := #[]
  methods := #[]
  instanceTypes := #[]
  staticTypes := #[]
  resolved := Array.replicate 12 none
  statics := none }

def pool6 : Array CpInfo := pool [(2, .class_ 4), (1, u "java/lang/CharSequence"), (42, .class_ 48), (0, u "java/lang/CharSequence$1CodePointIterator"), (10, .class_ 60), (0, u "java/lang/CharSequence$1CharIterator"), (5, .class_ 67), (0, u "java/lang/Object")] 63

/-- java/lang/CharSequence -/
def k6 : Class := { plain "java/lang/CharSequence" (some 0) with
  accessFlags := 1537
  interfaces := #[]
  cf := some (fileOf pool6 2 #[.nestMembers #[47, 59]] #[] 1537 66 #[] #[])
  fields := #[]
  methods := #[]
  instanceTypes := #[]
  staticTypes := #[]
  resolved := Array.replicate 131 none
  statics := none }

def pool7 : Array CpInfo := pool [(1, .class_ 2), (0, u "java/lang/constant/Constable"), (0, .class_ 4), (0, u "java/lang/Object")] 6

/-- java/lang/constant/Constable -/
def k7 : Class := { plain "java/lang/constant/Constable" (some 0) with
  accessFlags := 1537
  interfaces := #[]
  cf := some (fileOf pool7 1 #[] #[] 1537 3 #[] #[])
  fields := #[]
  methods := #[]
  instanceTypes := #[]
  staticTypes := #[]
  resolved := Array.replicate 11 none
  statics := none }

def pool8 : Array CpInfo := pool [(1, .class_ 2), (0, u "java/lang/constant/ConstantDesc"), (0, .class_ 4), (0, u "java/lang/Object")] 32

/-- java/lang/constant/ConstantDesc -/
def k8 : Class := { plain "java/lang/constant/ConstantDesc" (some 0) with
  accessFlags := 1537
  interfaces := #[]
  cf := some (fileOf pool8 1 #[] #[] 1537 3 #[] #[])
  fields := #[]
  methods := #[]
  instanceTypes := #[]
  staticTypes := #[]
  resolved := Array.replicate 37 none
  statics := none }

def pool9 : Array CpInfo := pool [(2, .class_ 4), (1, u "java/lang/Object"), (0, u "<init>"), (0, u "()V"), (3, .class_ 12), (1, u "java/lang/String"), (0, u "value"), (0, u "[B"), (2, u "coder"), (0, u "B"), (2, u "hash"), (0, u "I"), (2, u "hashIsZero"), (0, u "Z"), (13, u "COMPACT_STRINGS"), (534, .class_ 576), (0, u "java/lang/CharSequence"), (22, u "CASE_INSENSITIVE_ORDER"), (0, u "Ljava/util/Comparator;"), (500, u "serialPersistentFields"), (0, u "[Ljava/io/ObjectStreamField;"), (0, .class_ 1104), (0, u "java/lang/String$CaseInsensitiveComparator"), (1, .class_ 1107), (0, u "java/io/Serializable"), (0, .class_ 1109), (0, u "java/lang/Comparable"), (0, .class_ 1111), (0, u "java/lang/constant/Constable"), (0, .class_ 1113), (0, u "java/lang/constant/ConstantDesc"), (2, u "serialVersionUID"), (0, u "J"), (3, u "REPL"), (0, u "C"), (2, u "LATIN1"), (1, u "UTF16")] 323

def k9m0 : Method := { name := "<init>", desc := "()V", sig := { parameters := [], returnType := none }, accessFlags := 1, code := none }
/-- java/lang/String -/
def k9 : Class := { plain "java/lang/String" (some 0) with
  accessFlags := 49
  interfaces := #[4, 5, 6, 7, 8]
  cf := some (fileOf pool9 10 #[.nestMembers #[1103]] #[{ accessFlags := 1, nameIndex := 5, descriptorIndex := 6, attributes := #[] }] 49 2 #[1106, 1108, 575, 1110, 1112] #[{ accessFlags := 18, nameIndex := 13, descriptorIndex := 14, attributes := #[] }, { accessFlags := 18, nameIndex := 17, descriptorIndex := 18, attributes := #[] }, { accessFlags := 2, nameIndex := 21, descriptorIndex := 22, attributes := #[] }, { accessFlags := 2, nameIndex := 25, descriptorIndex := 26, attributes := #[] }, { accessFlags := 26, nameIndex := 1116, descriptorIndex := 1117, attributes := #[] }, { accessFlags := 24, nameIndex := 40, descriptorIndex := 26, attributes := #[] }, { accessFlags := 26, nameIndex := 1101, descriptorIndex := 1102, attributes := #[] }, { accessFlags := 26, nameIndex := 1121, descriptorIndex := 1122, attributes := #[] }, { accessFlags := 25, nameIndex := 599, descriptorIndex := 600, attributes := #[] }, { accessFlags := 24, nameIndex := 1125, descriptorIndex := 18, attributes := #[] }, { accessFlags := 24, nameIndex := 1127, descriptorIndex := 18, attributes := #[] }])
  fields := #[{ name := "value", type := (.array .byte), accessFlags := 18, slot := 0, constantValue := 0 }, { name := "coder", type := .byte, accessFlags := 18, slot := 1, constantValue := 0 }, { name := "hash", type := .int, accessFlags := 2, slot := 2, constantValue := 0 }, { name := "hashIsZero", type := .boolean, accessFlags := 2, slot := 3, constantValue := 0 }, { name := "serialVersionUID", type := .long, accessFlags := 26, slot := 0, constantValue := 0 }, { name := "COMPACT_STRINGS", type := .boolean, accessFlags := 24, slot := 1, constantValue := 0 }, { name := "serialPersistentFields", type := (.array (.object "java/io/ObjectStreamField")), accessFlags := 26, slot := 2, constantValue := 0 }, { name := "REPL", type := .char, accessFlags := 26, slot := 3, constantValue := 0 }, { name := "CASE_INSENSITIVE_ORDER", type := (.object "java/util/Comparator"), accessFlags := 25, slot := 4, constantValue := 0 }, { name := "LATIN1", type := .byte, accessFlags := 24, slot := 5, constantValue := 0 }, { name := "UTF16", type := .byte, accessFlags := 24, slot := 6, constantValue := 0 }]
  methods := #[k9m0]
  instanceTypes := #[(.array .byte), .byte, .int, .boolean]
  staticTypes := #[.long, .boolean, (.array (.object "java/io/ObjectStreamField")), .char, (.object "java/util/Comparator"), .byte, .byte]
  resolved := Array.replicate 1451 none
  statics := none }

def pool10 : Array CpInfo := pool [(3, .integer 2147483639), (0, .methodref 5 6), (0, .class_ 7), (0, .nameAndType 8 9), (0, u "com/example/tanglemark/tanglemark/datalog/Ints"), (0, u "<init>"), (0, u "(Ljava/lang/String;I)V"), (0, .methodref 11 12), (0, .class_ 13), (0, .nameAndType 8 14), (0, u "java/lang/Object"), (0, u "()V"), (0, .fieldref 5 16), (0, .nameAndType 17 18), (0, u "owner"), (0, u "Ljava/lang/String;"), (0, .fieldref 5 20), (0, .nameAndType 21 22), (0, u "maxLength"), (0, u "I"), (0, .methodref 24 25), (0, .class_ 26), (0, .nameAndType 27 28), (0, u "java/lang/Math"), (0, u "min"), (0, u "(II)I"), (0, .fieldref 5 30), (0, .nameAndType 31 32), (0, u "values"), (0, u "[I"), (2, u "size"), (8, u "(Ljava/lang/String;)V")] 35

def k10c0 : Code := { maxStack := 3, maxLocals := 2, code := prog_16_method_1_code, exceptionTable := #[], attributes := #[] }
def k10m0 : Method := { name := "<init>", desc := "(Ljava/lang/String;)V", sig := { parameters := [(.object "java/lang/String")], returnType := none }, accessFlags := 0, code := some k10c0 }
def k10c1 : Code := { maxStack := 3, maxLocals := 3, code := prog_16_method_2_code, exceptionTable := #[], attributes := #[] }
def k10m1 : Method := { name := "<init>", desc := "(Ljava/lang/String;I)V", sig := { parameters := [(.object "java/lang/String"), .int], returnType := none }, accessFlags := 0, code := some k10c1 }
/-- com/example/tanglemark/tanglemark/datalog/Ints -/
def k10 : Class := { plain "com/example/tanglemark/tanglemark/datalog/Ints" (some 0) with
  accessFlags := 48
  interfaces := #[]
  cf := some (fileOf pool10 5 #[] #[{ accessFlags := 0, nameIndex := 8, descriptorIndex := 44, attributes := #[] }, { accessFlags := 0, nameIndex := 8, descriptorIndex := 9, attributes := #[] }] 48 11 #[] #[{ accessFlags := 18, nameIndex := 17, descriptorIndex := 18, attributes := #[] }, { accessFlags := 18, nameIndex := 21, descriptorIndex := 22, attributes := #[] }, { accessFlags := 0, nameIndex := 31, descriptorIndex := 32, attributes := #[] }, { accessFlags := 0, nameIndex := 35, descriptorIndex := 22, attributes := #[] }])
  fields := #[{ name := "owner", type := (.object "java/lang/String"), accessFlags := 18, slot := 0, constantValue := 0 }, { name := "maxLength", type := .int, accessFlags := 18, slot := 1, constantValue := 0 }, { name := "values", type := (.array .int), accessFlags := 0, slot := 2, constantValue := 0 }, { name := "size", type := .int, accessFlags := 0, slot := 3, constantValue := 0 }]
  methods := #[k10m0, k10m1]
  instanceTypes := #[(.object "java/lang/String"), .int, (.array .int), .int]
  staticTypes := #[]
  resolved := Array.replicate 80 none
  statics := none }

def pool11 : Array CpInfo := pool [(1, .class_ 2), (0, u "java/lang/Math"), (1, .class_ 6), (1, u "java/lang/Object"), (0, u "<init>"), (0, u "()V"), (89, .class_ 100), (1, u "java/lang/Math$RandomNumberGeneratorHolder"), (71, u "negativeZeroFloatBits"), (0, u "J"), (2, u "negativeZeroDoubleBits"), (24, u "min"), (43, u "$assertionsDisabled"), (0, u "Z"), (88, u "(II)I"), (2, u "twoToTheDoubleScaleDown"), (0, u "D"), (4, u "twoToTheDoubleScaleUp"), (9, u "E"), (3, u "PI"), (2, u "TAU"), (2, u "DEGREES_TO_RADIANS"), (0, u "RADIANS_TO_DEGREES")] 94

def k11m0 : Method := { name := "<init>", desc := "()V", sig := { parameters := [], returnType := none }, accessFlags := 2, code := none }
def k11c1 : Code := { maxStack := 2, maxLocals := 2, code := jdk_29_method_69_code, exceptionTable := #[], attributes := #[] }
def k11m1 : Method := { name := "min", desc := "(II)I", sig := { parameters := [.int, .int], returnType := some .int }, accessFlags := 9, code := some k11c1 }
/-- java/lang/Math -/
def k11 : Class := { plain "java/lang/Math" (some 0) with
  accessFlags := 49
  interfaces := #[]
  cf := some (fileOf pool11 1 #[.nestMembers #[98]] #[{ accessFlags := 2, nameIndex := 7, descriptorIndex := 8, attributes := #[] }, { accessFlags := 9, nameIndex := 201, descriptorIndex := 335, attributes := #[] }] 49 4 #[] #[{ accessFlags := 25, nameIndex := 354, descriptorIndex := 339, attributes := #[] }, { accessFlags := 25, nameIndex := 358, descriptorIndex := 339, attributes := #[] }, { accessFlags := 25, nameIndex := 361, descriptorIndex := 339, attributes := #[] }, { accessFlags := 26, nameIndex := 364, descriptorIndex := 339, attributes := #[] }, { accessFlags := 26, nameIndex := 365, descriptorIndex := 339, attributes := #[] }, { accessFlags := 26, nameIndex := 172, descriptorIndex := 173, attributes := #[] }, { accessFlags := 26, nameIndex := 176, descriptorIndex := 173, attributes := #[] }, { accessFlags := 8, nameIndex := 344, descriptorIndex := 339, attributes := #[] }, { accessFlags := 8, nameIndex := 338, descriptorIndex := 339, attributes := #[] }, { accessFlags := 4120, nameIndex := 245, descriptorIndex := 246, attributes := #[] }])
  fields := #[{ name := "E", type := .double, accessFlags := 25, slot := 0, constantValue := 0 }, { name := "PI", type := .double, accessFlags := 25, slot := 1, constantValue := 0 }, { name := "TAU", type := .double, accessFlags := 25, slot := 2, constantValue := 0 }, { name := "DEGREES_TO_RADIANS", type := .double, accessFlags := 26, slot := 3, constantValue := 0 }, { name := "RADIANS_TO_DEGREES", type := .double, accessFlags := 26, slot := 4, constantValue := 0 }, { name := "negativeZeroFloatBits", type := .long, accessFlags := 26, slot := 5, constantValue := 0 }, { name := "negativeZeroDoubleBits", type := .long, accessFlags := 26, slot := 6, constantValue := 0 }, { name := "twoToTheDoubleScaleUp", type := .double, accessFlags := 8, slot := 7, constantValue := 0 }, { name := "twoToTheDoubleScaleDown", type := .double, accessFlags := 8, slot := 8, constantValue := 0 }, { name := "$assertionsDisabled", type := .boolean, accessFlags := 4120, slot := 9, constantValue := 0 }]
  methods := #[k11m0, k11m1]
  instanceTypes := #[]
  staticTypes := #[.double, .double, .double, .double, .double, .long, .long, .double, .double, .boolean]
  resolved := Array.replicate 460 none
  statics := none }

def pool12 : Array CpInfo := pool [(1, .methodref 2 3), (0, .class_ 4), (0, .nameAndType 5 6), (0, u "java/lang/Object"), (0, u "<init>"), (0, u "()V"), (0, .fieldref 8 9), (0, .class_ 10), (0, .nameAndType 11 12), (0, u "com/example/tanglemark/tanglemark/datalog/FactoredRows$Stretch"), (0, u "key"), (0, u "I"), (0, .fieldref 8 14), (0, .nameAndType 15 12), (0, u "first"), (0, .fieldref 8 17), (0, .nameAndType 18 12), (0, u "end"), (0, .fieldref 8 20), (0, .nameAndType 21 12), (0, u "from"), (0, u "(IIII)V"), (5, .class_ 29), (0, u "com/example/tanglemark/tanglemark/datalog/FactoredRows")] 2

def k12c0 : Code := { maxStack := 2, maxLocals := 5, code := prog_14_method_1_code, exceptionTable := #[], attributes := #[] }
def k12m0 : Method := { name := "<init>", desc := "(IIII)V", sig := { parameters := [.int, .int, .int, .int], returnType := none }, accessFlags := 0, code := some k12c0 }
/-- com/example/tanglemark/tanglemark/datalog/FactoredRows$Stretch -/
def k12 : Class := { plain "com/example/tanglemark/tanglemark/datalog/FactoredRows$Stretch" (some 0) with
  accessFlags := 48
  interfaces := #[]
  cf := some (fileOf pool12 8 #[.nestHost 28] #[{ accessFlags := 0, nameIndex := 5, descriptorIndex := 22, attributes := #[] }] 48 2 #[] #[{ accessFlags := 16, nameIndex := 11, descriptorIndex := 12, attributes := #[] }, { accessFlags := 16, nameIndex := 15, descriptorIndex := 12, attributes := #[] }, { accessFlags := 16, nameIndex := 18, descriptorIndex := 12, attributes := #[] }, { accessFlags := 16, nameIndex := 21, descriptorIndex := 12, attributes := #[] }])
  fields := #[{ name := "key", type := .int, accessFlags := 16, slot := 0, constantValue := 0 }, { name := "first", type := .int, accessFlags := 16, slot := 1, constantValue := 0 }, { name := "end", type := .int, accessFlags := 16, slot := 2, constantValue := 0 }, { name := "from", type := .int, accessFlags := 16, slot := 3, constantValue := 0 }]
  methods := #[k12m0]
  instanceTypes := #[.int, .int, .int, .int]
  staticTypes := #[]
  resolved := Array.replicate 32 none
  statics := none }

def pool13 : Array CpInfo := pool [(1, u "java/lang/Cloneable"), (0, .class_ 1), (0, u "java/lang/Object"), (0, .class_ 3)] 3

/-- java/lang/Cloneable -/
def k13 : Class := { plain "java/lang/Cloneable" (some 0) with
  accessFlags := 1537
  interfaces := #[]
  cf := some (fileOf pool13 2 #[] #[] 1537 4 #[] #[])
  fields := #[]
  methods := #[]
  instanceTypes := #[]
  staticTypes := #[]
  resolved := Array.replicate 8 none
  statics := none }

/-- the primitive byte -/
def k14 : Class := { plain "byte" none with kind := .primitive 'B', accessFlags := 0x411 }
/-- [B -/
def k15 : Class := { plain "[B" (some 0) with kind := .array 14 .byte, interfaces := #[13, 4], accessFlags := 1041 }

/-- the primitive int -/
def k16 : Class := { plain "int" none with kind := .primitive 'I', accessFlags := 0x411 }
/-- [I -/
def k17 : Class := { plain "[I" (some 0) with kind := .array 16 .int, interfaces := #[13, 4], accessFlags := 1041 }

def heap : Heap := #[]
def classes : Array Class := #[k0, k1, k2, k3, k4, k5, k6, k7, k8, k9, k10, k11, k12, k13, k14, k15, k16, k17]
def interned : List (Array UInt16 × Addr) := []
def slotsUsed : Nat := 0
def theMethod : MethodId := ⟨1, 1⟩
def args0 : Array Value := #[.int 5, .int 6, .int 7, .int 8, .int 9, .int 10]
def aboutOver (below : List Frame) : State where
  vm := { classes := classes, interned := interned.toArray }
  heap := heap
  slotsUsed := slotsUsed
  threads := #[{ frames := .invoking theMethod args0 :: below }]
def below0 : List Frame := [.native { method := ⟨0, 0⟩, args := #[] }]
def about1 : State := aboutOver below0
def p0 : Program := .bare "" "" ""
def e0 : Env := launch0.env 0 0 0
theorem w_frames : about1.frames = Frame.invoking theMethod args0 :: below0 := rfl
set_option maxRecDepth 65536 in
theorem w_args : argsFit about1.vm theMethod args0 = true := by decide +kernel
set_option maxRecDepth 65536 in
theorem w_heap : heapFits about1 = true := by decide +kernel
set_option maxRecDepth 65536 in
theorem w_runnable : about1.curStatus? = some .runnable := by decide +kernel
set_option maxRecDepth 65536 in
theorem w_alone : about1.alone = true := by decide +kernel
set_option maxRecDepth 65536 in
theorem w_named : about1.methodNamed? x = some theMethod := by decide +kernel
set_option maxRecDepth 65536 in
theorem w_hears : about1.hears theMethod below0 = true := by decide +kernel
set_option maxRecDepth 65536 in
theorem w_ripe : about1.ripe theMethod args0 below0 = true := by decide +kernel
theorem w_running : about1.status = .running := rfl
set_option maxRecDepth 65536 in
theorem w_room : about1.hasRoom e0.platform room_1 = true :=
  launch0.hasRoom_least _ room_1 (by decide +kernel) (by decide +kernel) (by decide +kernel) (by decide +kernel) (by decide +kernel) (by decide +kernel)
theorem allAtoms_all (ts : List Jvm.Cond) (a : Array Jvm.Value) (st : Jvm.State) : (allAtoms ts).before a st = ts.all (fun c => c.before a st) := by
  induction ts with
  | nil => rfl
  | cons c t ih =>
    show (Jvm.Cond.and c (allAtoms t)).before a st = _
    rw [Jvm.Cond.before_and, ih, List.all_cons]
def words1 : List Jvm.Cond := Jvm.Cond.code x code maxLocals ret :: tables_1
/-- a 'code' word, met by the world's own term for the bytes: nothing is compared byte by byte -/
theorem code_word {y : MethodName} {bytes : ByteArray} {mx : Nat} {rt : Option FieldType} {a : Array Value} {s : State} {m : MethodId} {meth : Method} {c : Code} (h1 : s.methodNamed? y = some m) (h2 : s.vm.method? m = some meth) (h3 : meth.code = some c) (h4 : c.code = bytes)
    (h5 : (c.maxLocals == mx && c.exceptionTable.isEmpty && decide (c.maxStack ≤ mostOperands) && decide (meth.sig.returnType = rt) && !meth.locks && decide (parseMethodDescriptor y.desc = some meth.sig)) = true) : (Jvm.Cond.code y bytes mx rt).before a s = true := by
  simp only [Bool.and_eq_true, beq_iff_eq, Bool.not_eq_true', decide_eq_true_eq] at h5
  obtain ⟨⟨⟨⟨⟨g1, g2⟩, g3⟩, g4⟩, g5⟩, g6⟩ := h5
  simp [Cond.before, Cond.holds, Cond.value, h1, h2, h3, h4, g1, g2, g3, g4, g5, g6]
def isCode : Jvm.Cond → Bool
  | .code _ _ _ _ => true
  | _ => false
theorem all_split {L : List Jvm.Cond} {P : Jvm.Cond → Bool} (h1 : L.all (fun c => isCode c || P c) = true) (h2 : ∀ c ∈ L.filter isCode, P c = true) : L.all P = true := by
  refine List.all_eq_true.mpr fun c hc => ?_
  have h := List.all_eq_true.mp h1 c hc
  rcases Bool.eq_false_or_eq_true (isCode c) with hi | hi
  · exact h2 c (List.mem_filter.mpr ⟨hc, hi⟩)
  · simpa [hi] using h
set_option maxRecDepth 65536 in
theorem w_c0 : (Jvm.Cond.code x code maxLocals ret).before args0 about1 = true := code_word (m := ⟨1, 1⟩) (meth := k1m1) (c := k1c1) (by decide +kernel) rfl rfl rfl (by decide +kernel)
set_option maxRecDepth 65536 in
theorem w_c1 : (Jvm.Cond.code ({ cls := "com/example/tanglemark/tanglemark/datalog/SharedSets", name := "<init>", desc := "(Ljava/lang/String;)V" } : Jvm.MethodName) prog_52_method_1_code (2 : Nat) (Option.none : Option Jvm.ClassFile.FieldType)).before args0 about1 = true := code_word (m := ⟨3, 0⟩) (meth := k3m0) (c := k3c0) (by decide +kernel) rfl rfl rfl (by decide +kernel)
set_option maxRecDepth 65536 in
theorem w_c2 : (Jvm.Cond.code ({ cls := "java/lang/Object", name := "<init>", desc := "()V" } : Jvm.MethodName) object_method_1_code (1 : Nat) (Option.none : Option Jvm.ClassFile.FieldType)).before args0 about1 = true := code_word (m := ⟨0, 0⟩) (meth := k0m0) (c := k0c0) (by decide +kernel) rfl rfl rfl (by decide +kernel)
set_option maxRecDepth 65536 in
theorem w_c3 : (Jvm.Cond.code ({ cls := "com/example/tanglemark/tanglemark/datalog/Ints", name := "<init>", desc := "(Ljava/lang/String;)V" } : Jvm.MethodName) prog_16_method_1_code (2 : Nat) (Option.none : Option Jvm.ClassFile.FieldType)).before args0 about1 = true := code_word (m := ⟨10, 0⟩) (meth := k10m0) (c := k10c0) (by decide +kernel) rfl rfl rfl (by decide +kernel)
set_option maxRecDepth 65536 in
theorem w_c4 : (Jvm.Cond.code ({ cls := "com/example/tanglemark/tanglemark/datalog/Ints", name := "<init>", desc := "(Ljava/lang/String;I)V" } : Jvm.MethodName) prog_16_method_2_code (3 : Nat) (Option.none : Option Jvm.ClassFile.FieldType)).before args0 about1 = true := code_word (m := ⟨10, 1⟩) (meth := k10m1) (c := k10c1) (by decide +kernel) rfl rfl rfl (by decide +kernel)
set_option maxRecDepth 65536 in
theorem w_c5 : (Jvm.Cond.code ({ cls := "java/lang/Math", name := "min", desc := "(II)I" } : Jvm.MethodName) jdk_29_method_69_code (2 : Nat) (Option.some Jvm.ClassFile.FieldType.int)).before args0 about1 = true := code_word (m := ⟨11, 1⟩) (meth := k11m1) (c := k11c1) (by decide +kernel) rfl rfl rfl (by decide +kernel)
set_option maxRecDepth 65536 in
theorem w_c6 : (Jvm.Cond.code ({ cls := "com/example/tanglemark/tanglemark/datalog/FactoredRows", name := "<init>", desc := "(I[I[I[ILcom/example/tanglemark/tanglemark/datalog/SharedSets;[I[I)V" } : Jvm.MethodName) prog_13_method_1_code (13 : Nat) (Option.none : Option Jvm.ClassFile.FieldType)).before args0 about1 = true := code_word (m := ⟨2, 0⟩) (meth := k2m0) (c := k2c0) (by decide +kernel) rfl rfl rfl (by decide +kernel)
set_option maxRecDepth 65536 in
theorem w_c7 : (Jvm.Cond.code ({ cls := "com/example/tanglemark/tanglemark/datalog/FactoredRows$Stretch", name := "<init>", desc := "(IIII)V" } : Jvm.MethodName) prog_14_method_1_code (5 : Nat) (Option.none : Option Jvm.ClassFile.FieldType)).before args0 about1 = true := code_word (m := ⟨12, 0⟩) (meth := k12m0) (c := k12c0) (by decide +kernel) rfl rfl rfl (by decide +kernel)
set_option maxRecDepth 65536 in
theorem w_c8 : (Jvm.Cond.code ({ cls := "com/example/tanglemark/tanglemark/datalog/FactoredRows", name := "keyHas", desc := "(I[I)Z" } : Jvm.MethodName) prog_13_method_9_code (4 : Nat) (Option.some Jvm.ClassFile.FieldType.boolean)).before args0 about1 = true := code_word (m := ⟨2, 1⟩) (meth := k2m1) (c := k2c1) (by decide +kernel) rfl rfl rfl (by decide +kernel)
def codes1 : List Jvm.Cond := [Jvm.Cond.code x code maxLocals ret, Jvm.Cond.code ({ cls := "com/example/tanglemark/tanglemark/datalog/SharedSets", name := "<init>", desc := "(Ljava/lang/String;)V" } : Jvm.MethodName) prog_52_method_1_code (2 : Nat) (Option.none : Option Jvm.ClassFile.FieldType), Jvm.Cond.code ({ cls := "java/lang/Object", name := "<init>", desc := "()V" } : Jvm.MethodName) object_method_1_code (1 : Nat) (Option.none : Option Jvm.ClassFile.FieldType), Jvm.Cond.code ({ cls := "com/example/tanglemark/tanglemark/datalog/Ints", name := "<init>", desc := "(Ljava/lang/String;)V" } : Jvm.MethodName) prog_16_method_1_code (2 : Nat) (Option.none : Option Jvm.ClassFile.FieldType), Jvm.Cond.code ({ cls := "com/example/tanglemark/tanglemark/datalog/Ints", name := "<init>", desc := "(Ljava/lang/String;I)V" } : Jvm.MethodName) prog_16_method_2_code (3 : Nat) (Option.none : Option Jvm.ClassFile.FieldType), Jvm.Cond.code ({ cls := "java/lang/Math", name := "min", desc := "(II)I" } : Jvm.MethodName) jdk_29_method_69_code (2 : Nat) (Option.some Jvm.ClassFile.FieldType.int), Jvm.Cond.code ({ cls := "com/example/tanglemark/tanglemark/datalog/FactoredRows", name := "<init>", desc := "(I[I[I[ILcom/example/tanglemark/tanglemark/datalog/SharedSets;[I[I)V" } : Jvm.MethodName) prog_13_method_1_code (13 : Nat) (Option.none : Option Jvm.ClassFile.FieldType), Jvm.Cond.code ({ cls := "com/example/tanglemark/tanglemark/datalog/FactoredRows$Stretch", name := "<init>", desc := "(IIII)V" } : Jvm.MethodName) prog_14_method_1_code (5 : Nat) (Option.none : Option Jvm.ClassFile.FieldType), Jvm.Cond.code ({ cls := "com/example/tanglemark/tanglemark/datalog/FactoredRows", name := "keyHas", desc := "(I[I)Z" } : Jvm.MethodName) prog_13_method_9_code (4 : Nat) (Option.some Jvm.ClassFile.FieldType.boolean)]
set_option maxRecDepth 65536 in
theorem codes_eq : words1.filter isCode = codes1 := rfl
theorem w_codes : ∀ c ∈ words1.filter isCode, c.before args0 about1 = true := by
  rw [codes_eq]
  intro c hc
  simp only [codes1, List.mem_cons, List.not_mem_nil, or_false] at hc
  rcases hc with rfl | rfl | rfl | rfl | rfl | rfl | rfl | rfl | rfl
  · exact w_c0
  · exact w_c1
  · exact w_c2
  · exact w_c3
  · exact w_c4
  · exact w_c5
  · exact w_c6
  · exact w_c7
  · exact w_c8
set_option maxRecDepth 65536 in
theorem w_t1 : (words1.take 24).all (fun c => isCode c || c.before args0 about1) = true := by decide +kernel
set_option maxRecDepth 65536 in
theorem w_t2 : ((words1.drop 24).take 24).all (fun c => isCode c || c.before args0 about1) = true := by decide +kernel
set_option maxRecDepth 65536 in
theorem w_t3 : (((words1.drop 24).drop 24).take 24).all (fun c => isCode c || c.before args0 about1) = true := by decide +kernel
set_option maxRecDepth 65536 in
theorem w_t4 : ((((words1.drop 24).drop 24).drop 24).take 24).all (fun c => isCode c || c.before args0 about1) = true := by decide +kernel
set_option maxRecDepth 65536 in
theorem w_t5 : ((((words1.drop 24).drop 24).drop 24).drop 24).all (fun c => isCode c || c.before args0 about1) = true := by decide +kernel
theorem w_tables : (allAtoms (Jvm.Cond.code x code maxLocals ret :: tables_1)).before args0 about1 = true := by
  rw [allAtoms_all]
  show words1.all (fun c => c.before args0 about1) = true
  refine all_split ?_ w_codes
  rw [← List.take_append_drop 24 words1, List.all_append, w_t1, ← List.take_append_drop 24 (words1.drop 24), List.all_append, w_t2, ← List.take_append_drop 24 ((words1.drop 24).drop 24), List.all_append, w_t3, ← List.take_append_drop 24 (((words1.drop 24).drop 24).drop 24), List.all_append, w_t4, w_t5]
  rfl
set_option maxRecDepth 65536 in
theorem w_case : (Jvm.Cond.and given_1 narrow_1).before args0 about1 = true := by decide +kernel
theorem w_applies : (headSpec (Jvm.Cond.code x code maxLocals ret :: tables_1) room_1).applies x e0.platform about1 = true :=
  (Spec.applies_iff w_frames).mpr ⟨w_running, w_runnable, w_alone, w_named, w_hears, w_ripe, w_room, w_tables⟩
theorem atStart : AtStart classFile x code maxLocals ret World_1 tables_1 room_1 Calls_1 rest_1 Pre_1 launch0 p0 e0 about1 theMethod args0 below0 :=
  ⟨lists_1, trivial, launch0.admits_env _ _ _, launch0.least_env, fairChoices_fair.cas, fairChoices_fair.clock, w_frames, w_args, w_heap, w_applies, trivial, trivial, w_case⟩
end start1
theorem witness_1 : WitnessClaimed_1 := ⟨start1.p0, start1.e0, start1.about1, start1.theMethod, start1.args0, start1.below0, start1.atStart⟩
end Jvm.Pilot.@@N@@
