import JvmDerived
import JvmDerived.Pilot.@@N@@Statement
import JvmDerived.Pilot.@@N@@Code
set_option linter.unusedVariables false
set_option linter.unusedSimpArgs false
namespace Jvm.Pilot.@@N@@
open Jvm Jvm.ClassFile Sem Op Lib Jvm.Free Jvm.Stand Jvm.LawKit Jvm.RoadKit Bundle Jvm.Pilot.@@N@@.Jvm.D
/-! THE OWN LAYER (printed by own/gen_layer.py): Wp: from this pc, with these locals, this operand stack and these new objects, the body comes to its return and Q holds of what it returns and of the new objects then -/
abbrev OSig := List (String × String × String)
abbrev ObjB := (String × OSig × List Value) ⊕ ((FieldType × List Int32) ⊕ (List Int64 ⊕ (String × FieldType × List Value)))
/-- an object of the walk: true: made by it (it may be written); false: only read -/
abbrev Obj := Bool × ObjB
abbrev oI (C : String) (sg : OSig) (vs : List Value) : Obj := (true, .inl (C, sg, vs))
abbrev oA (ty : FieldType) (xs : List Int32) : Obj := (true, .inr (.inl (ty, xs)))
abbrev oJ (xs : List Int64) : Obj := (true, .inr (.inr (.inl xs)))
abbrev oR (C : String) (ty : FieldType) (vs : List Value) : Obj := (true, .inr (.inr (.inr (C, ty, vs))))
abbrev fI (C : String) (sg : OSig) (vs : List Value) : Obj := (false, .inl (C, sg, vs))
abbrev fA (ty : FieldType) (xs : List Int32) : Obj := (false, .inr (.inl (ty, xs)))
abbrev OH := List (Addr × Obj)
def Slo (Z : State) (sg : OSig) : Prop := sg.Pairwise fun f g => Jvm.RoadKit.slotOf Z f.1 f.2.1 f.2.2 ≠ Jvm.RoadKit.slotOf Z g.1 g.2.1 g.2.2
def OvrT (Z : State) (cA : ClassId) (C : String) (ty : FieldType) : Prop := ∃ (k : Class) (comp : ClassId), Z.vm.classes[cA]? = some k ∧ k.kind = .array comp ty ∧ Z.vm.findClass C = some comp
def Sat (Z : State) (h : Heap) (a : Addr) : ObjB → Prop
  | .inl (C, sg, vs) => Exa Z h a C ∧ Slo Z sg ∧ ∀ (i : Nat) (f : String × String × String) (v : Value), sg[i]? = some f → vs[i]? = some v → Fld Z h a f.1 f.2.1 f.2.2 v
  | .inr (.inl (ty, xs)) => Exa Z h a ("[" ++ ty.toString) ∧ ∃ c : Cell, Arr Z h a c ty ∧ c.slots = (xs.map Value.int).toArray ∧ ∀ x ∈ xs, fits ty (.int x) = true
  | .inr (.inr (.inl xs)) => Exa Z h a "[J" ∧ ∃ c : Cell, Arr Z h a c .long ∧ c.slots = (xs.map Value.long).toArray
  | .inr (.inr (.inr (C, ty, vs))) => Exa Z h a ("[" ++ ty.toString) ∧ ∃ c : Cell, Arr Z h a c ty ∧ OvrT Z c.cls C ty ∧ c.slots = vs.toArray ∧ ∀ v ∈ vs, v.isRef = true
def Hp (Z : State) (h : Heap) (H : OH) : Prop := Ext Z.heap h ∧ (∀ x ∈ H, (x.2.1 = true → Z.heap.size ≤ x.1) ∧ Sat Z h x.1 x.2.2) ∧ H.Pairwise fun x y => x.1 ≠ y.1
theorem Sat.ext {Z : State} {h h' : Heap} {a : Addr} (E : Ext h h') : ∀ {o : ObjB}, Sat Z h a o → Sat Z h' a o
  | .inl (C, sg, vs), ⟨h1, h2, h3⟩ => ⟨h1.ext E, h2, fun i f v q r => (h3 i f v q r).ext E⟩
  | .inr (.inl (ty, xs)), ⟨q, c, h1, h2⟩ => ⟨q.ext E, c, h1.ext E, h2⟩
  | .inr (.inr (.inl xs)), ⟨q, c, h1, h2⟩ => ⟨q.ext E, c, h1.ext E, h2⟩
  | .inr (.inr (.inr (C, ty, vs))), ⟨q, c, h1, h2⟩ => ⟨q.ext E, c, h1.ext E, h2⟩
theorem Sat.other {Z : State} {h h' : Heap} {a b : Addr} {sl : Nat} {v : Value} (W : Wr h h' a sl v) (ne : b ≠ a) : ∀ {o : ObjB}, Sat Z h b o → Sat Z h' b o
  | .inl (C, sg, vs), ⟨h1, h2, h3⟩ => ⟨h1.wr W, h2, fun i f v q r => (h3 i f v q r).other W (Or.inl ne)⟩
  | .inr (.inl (ty, xs)), ⟨q, c, h1, h2⟩ => ⟨q.wr W, c, h1.other W ne, h2⟩
  | .inr (.inr (.inl xs)), ⟨q, c, h1, h2⟩ => ⟨q.wr W, c, h1.other W ne, h2⟩
  | .inr (.inr (.inr (C, ty, vs))), ⟨q, c, h1, h2⟩ => ⟨q.wr W, c, h1.other W ne, h2⟩
theorem Sat.lt {Z : State} {h : Heap} {a : Addr} : ∀ {o : ObjB}, Sat Z h a o → a < h.size
  | .inl (C, sg, vs), ⟨h1, h2, h3⟩ => h1.lt
  | .inr (.inl (ty, xs)), ⟨q, _⟩ => q.lt
  | .inr (.inr (.inl xs)), ⟨q, _⟩ => q.lt
  | .inr (.inr (.inr (C, ty, vs))), ⟨q, _⟩ => q.lt
theorem Hp.nil (Z : State) : Hp Z Z.heap [] := ⟨⟨Nat.le_refl _, fun _ _ q => q⟩, (fun _ q => nomatch q), List.Pairwise.nil⟩
theorem ext_trans {h h1 h2 : Heap} (E : Ext h h1) (E' : Ext h1 h2) : Ext h h2 := ⟨Nat.le_trans E.1 E'.1, fun a c q => E'.2 a c (E.2 a c q)⟩
theorem Hp.ext {Z : State} {h h' : Heap} {H : OH} (P : Hp Z h H) (E : Ext h h') : Hp Z h' H := ⟨ext_trans P.1 E, fun x q => ⟨(P.2.1 x q).1, (P.2.1 x q).2.ext E⟩, P.2.2⟩
theorem Hp.cons {Z : State} {h h' : Heap} {H : OH} (P : Hp Z h H) (E : Ext h h') {fl : Bool} {o : ObjB} (S : Sat Z h' h.size o) : Hp Z h' ((h.size, (fl, o)) :: H) :=
  ⟨ext_trans P.1 E, fun x q => (List.mem_cons.mp q).elim (fun e => by subst e; exact ⟨fun _ => P.1.1, S⟩) fun q => ⟨(P.2.1 x q).1, (P.2.1 x q).2.ext E⟩,
    List.Pairwise.cons (fun y q e => absurd ((P.2.1 y q).2.lt) (by rw [← e]; exact Nat.lt_irrefl _)) P.2.2⟩
theorem Hp.at {Z : State} {h : Heap} {H : OH} (P : Hp Z h H) {i : Nat} {x : Addr × Obj} (q : H[i]? = some x) : (x.2.1 = true → Z.heap.size ≤ x.1) ∧ Sat Z h x.1 x.2.2 := P.2.1 x (List.mem_of_getElem? q)
theorem Hp.ne {Z : State} {h : Heap} {H : OH} (P : Hp Z h H) {i j : Nat} {x y : Addr × Obj} (q : H[i]? = some x) (r : H[j]? = some y) (ij : i ≠ j) : x.1 ≠ y.1 := by
  have hP := List.pairwise_iff_getElem.mp P.2.2
  obtain ⟨hi, rfl⟩ := List.getElem?_eq_some_iff.mp q
  obtain ⟨hj, rfl⟩ := List.getElem?_eq_some_iff.mp r
  rcases Nat.lt_or_gt_of_ne ij with u | u
  · exact hP i j hi hj u
  · exact fun e => hP j i hj hi u e.symm
theorem Hp.set {Z : State} {h h' : Heap} {H : OH} (P : Hp Z h H) {i : Nat} {a : Addr} {o o' : ObjB} (q : H[i]? = some (a, (true, o))) {sl : Nat} {v : Value} (W : Wr h h' a sl v) (S : Sat Z h' a o') : Hp Z h' (H.set i (a, (true, o'))) := by
  have g : Z.heap.size ≤ a := (P.at q).1 rfl
  obtain ⟨hi, hq⟩ := List.getElem?_eq_some_iff.mp q
  refine ⟨⟨by rw [W.size]; exact P.1.1, fun b c r => ?_⟩, fun x hx => ?_, ?_⟩
  · obtain ⟨c', e1, -, -, -, e5, -⟩ := wr_at W (P.1.2 b c r)
    have : b < Z.heap.size := (Array.getElem?_eq_some_iff.mp r).1
    rw [← e5 (by rintro rfl; exact absurd this (Nat.not_lt.mpr g))]; exact e1
  · obtain ⟨n, hn⟩ := List.getElem?_of_mem hx
    rw [List.getElem?_set] at hn
    split at hn
    · have e0 : (a, (true, o')) = x := by simpa [hi] using hn
      subst e0; exact ⟨fun _ => g, S⟩
    · rename_i ne
      exact ⟨(P.at hn).1, (P.at hn).2.other W (P.ne hn q (Ne.symm ne))⟩
  · have e : (H.set i (a, (true, o'))).map Prod.fst = H.map Prod.fst := by
      rw [List.map_set]
      refine List.ext_getElem? fun n => ?_
      rw [List.getElem?_set]
      split
      · rename_i e; subst e
        simp [hi, hq]
      · rfl
    have h1 : (H.map Prod.fst).Pairwise (· ≠ ·) := List.pairwise_map.mpr P.2.2
    rw [← e] at h1
    exact List.pairwise_map.mp h1
theorem Hp.pick {Z : State} {h : Heap} {H : OH} (P : Hp Z h H) (is : List Nat) (hn : is.Nodup) : Hp Z h (is.filterMap fun i => H[i]?) := by
  refine ⟨P.1, fun x hx => ?_, ?_⟩
  · obtain ⟨i, -, q⟩ := List.mem_filterMap.mp hx
    exact P.at q
  · refine List.pairwise_filterMap.mpr (hn.imp fun {i j} ne x hx y hy => P.ne hx hy ne)
/-- what an instruction says: its constructor, its length, the next pc -/
def Dc (bytes : ByteArray) (pc : Nat) (i : Instr) (n pc' : Nat) : Prop := decode bytes pc = .ok (i, n) ∧ pc + n = pc'
def Tg (pc : Nat) (o : Int) (pc' : Nat) : Prop := 0 ≤ (pc : Int) + o ∧ ((pc : Int) + o).toNat = pc'
def Wp (b : Bool) (l : Launch) (Z : State) (own nm : String) (bytes : ByteArray) (maxL : Nat) (ret : Option FieldType) (R : Room) (H : OH) (k j : Nat) (pc : Nat) (Ls : Array Slot) (st : List Value) (Q : Option Value → OH → Prop) : Prop :=
  ∀ (p : Program) (e : Env) (s : State) (vm0 : Vm) (k0 : Nat) (m : MethodId) (args : Array Value) (below : List Frame) (meth : Method) (c : Code) (T : State) (L : List Loc),
    p.tables.exec = Jvm.exec → Z.Warmed39 vm0 → s.Since vm0 k0 → k0 ≤ T.heap.size → c.code = bytes → c.maxLocals = maxL → vm0.findClass own = some m.cls → meth.name = nm → meth.sig.returnType = ret →
    Stand p l e R (s.setVm vm0) m args below meth c T L k j → Fr Z.heap.size L → Hp Z T.heap H →
    ∃ (T' : State) (v : Option Value) (L' : List Loc) (k' j' : Nat) (vm1 : Vm) (k1 : Nat) (H' : OH),
      (s.Since vm1 k1 ∧ k1 ≤ T'.heap.size ∧ (b = false → vm1 = vm0)) ∧ Stand p l e R (s.setVm vm1) m args below meth c T' L' k' j' ∧ (k' ≤ R.cells ∧ j' ≤ R.slots ∧ T.heap.size ≤ T'.heap.size) ∧ Fr Z.heap.size L' ∧ Hp Z T'.heap H' ∧ (ret = none → v = none) ∧ Q v H' ∧
      ∀ fs, (∀ (f : JFrame) (acts : List Action), f.method = m → f.locked = none → f.entered = [] → (doReturn e (T'.setTop f) acts v).1 = T'.setFrames fs) → Steps p.tables e below (T.setTop (mkF m pc Ls st)) (T'.setFrames fs)
section Own
variable {b : Bool} {l : Launch} {Z : State} {a0 : Array Value} {own nm : String} {bytes : ByteArray} {maxL : Nat} {ret : Option FieldType} {R : Room} {H : OH} {k j pc pc' : Nat} {Ls : Array Slot} {st : List Value} {Q : Option Value → OH → Prop}
theorem Wp.stepH
    (hs : ∀ (p : Program) (e : Env) (s : State) (m : MethodId) (args : Array Value) (below : List Frame) (meth : Method) (c : Code) (T : State) (L : List Loc),
      p.tables.exec = Jvm.exec → Z.Warmed39 s.vm → c.code = bytes → c.maxLocals = maxL → s.vm.findClass own = some m.cls → meth.name = nm → meth.sig.returnType = ret →
      Stand p l e R s m args below meth c T L k j → Fr Z.heap.size L → Hp Z T.heap H →
      ∃ (T' : State) (L' : List Loc) (k' j' : Nat) (H' : OH) (pc' : Nat) (Ls' : Array Slot) (st' : List Value), Stand p l e R s m args below meth c T' L' k' j' ∧ T.heap.size ≤ T'.heap.size ∧ Fr Z.heap.size L' ∧ Hp Z T'.heap H' ∧ Wp b l Z own nm bytes maxL ret R H' k' j' pc' Ls' st' Q ∧
        ∀ target, Steps p.tables e below (T'.setTop (mkF m pc' Ls' st')) target → Steps p.tables e below (T.setTop (mkF m pc Ls st)) target) :
    Wp b l Z own nm bytes maxL ret R H k j pc Ls st Q := by
  intro p e s vm0 k0 m args below meth c T L hx hZ hS hk hby hml hown hnm hret X N hH
  obtain ⟨T', L', k', j', H', pc', Ls', st', X', hsz, N', hH', hr, stp⟩ := hs p e (s.setVm vm0) m args below meth c T L hx hZ hby hml hown hnm hret X N hH
  obtain ⟨T2, v, L2, k2, j2, vm1, k1, H2, r1, r2, ⟨r3, r4, r5⟩, r6, r7, r8, r9, r10⟩ := hr p e s vm0 k0 m args below meth c T' L' hx hZ hS (Nat.le_trans hk hsz) hby hml hown hnm hret X' N' hH'
  exact ⟨T2, v, L2, k2, j2, vm1, k1, H2, r1, r2, ⟨r3, r4, Nat.le_trans hsz r5⟩, r6, r7, r8, r9, fun fs hl => stp _ (r10 fs hl)⟩
theorem Wp.step {Ls' : Array Slot} {st' : List Value}
    (hs : ∀ (p : Program) (e : Env) (s : State) (m : MethodId) (args : Array Value) (below : List Frame) (meth : Method) (c : Code) (T : State) (L : List Loc),
      p.tables.exec = Jvm.exec → Z.Warmed39 s.vm → c.code = bytes → s.vm.findClass own = some m.cls → Stand p l e R s m args below meth c T L k j → Hp Z T.heap H →
        ∀ target, Steps p.tables e below (T.setTop (mkF m pc' Ls' st')) target → Steps p.tables e below (T.setTop (mkF m pc Ls st)) target)
    (hr : Wp b l Z own nm bytes maxL ret R H k j pc' Ls' st' Q) : Wp b l Z own nm bytes maxL ret R H k j pc Ls st Q :=
  Wp.stepH fun p e s m args below meth c T L hx hZ hby hml hown hnm hret X N hH => ⟨T, L, k, j, H, pc', Ls', st', X, Nat.le_refl _, N, hH, hr, hs p e s m args below meth c T L hx hZ hby hown X hH⟩
theorem Wp.know {P : Prop} (hp : ∀ h, Hp Z h H → P) (hr : P → Wp b l Z own nm bytes maxL ret R H k j pc Ls st Q) : Wp b l Z own nm bytes maxL ret R H k j pc Ls st Q :=
  fun p e s vm0 k0 m args below meth c T L hx hZ hS hk hby hml hown hnm hret X N hH => hr (hp _ hH) p e s vm0 k0 m args below meth c T L hx hZ hS hk hby hml hown hnm hret X N hH
theorem Wp.pick (is : List Nat) (hn : is.Nodup) (hr : Wp b l Z own nm bytes maxL ret R (is.filterMap fun i => H[i]?) k j pc Ls st Q) : Wp b l Z own nm bytes maxL ret R H k j pc Ls st Q :=
  Wp.stepH fun p e s m args below meth c T L hx hZ hby hml hown hnm hret X N hH => ⟨T, L, k, j, _, pc, Ls, st, X, Nat.le_refl _, N, hH.pick is hn, hr, fun _ q => q⟩
theorem Wp.more {k' j' : Nat} (hk : k ≤ k') (hj : j ≤ j') (hr : Wp b l Z own nm bytes maxL ret R H k' j' pc Ls st Q) : Wp b l Z own nm bytes maxL ret R H k j pc Ls st Q :=
  Wp.stepH fun p e s m args below meth c T L hx hZ hby hml hown hnm hret X N hH => ⟨T, L, k', j', H, pc, Ls, st, X.more hk hj, Nat.le_refl _, N, hH, hr, fun _ q => q⟩
theorem Wp.mono {Q' : Option Value → OH → Prop} (hr : Wp b l Z own nm bytes maxL ret R H k j pc Ls st Q') (hq : ∀ v H', Q' v H' → Q v H') : Wp b l Z own nm bytes maxL ret R H k j pc Ls st Q :=
  fun p e s vm0 k0 m args below meth c T L hx hZ hS hk hby hml hown hnm hret X N hH => by
    obtain ⟨T2, v, L2, k2, j2, vm1, k1, H2, r1, r2, r3, r6, r7, r8, r9, r10⟩ := hr p e s vm0 k0 m args below meth c T L hx hZ hS hk hby hml hown hnm hret X N hH
    exact ⟨T2, v, L2, k2, j2, vm1, k1, H2, r1, r2, r3, r6, r7, r8, hq _ _ r9, r10⟩
theorem wp_iadd {x y : Int32} (hd : Dc bytes pc (.iadd) 1 pc')  (hr : Wp b l Z own nm bytes maxL ret R H k j pc' Ls (.int (x + y) :: st) Q) : Wp b l Z own nm bytes maxL ret R H k j pc Ls (.int y :: .int x :: st) Q := by
  obtain ⟨hd, rfl⟩ := hd
  exact Wp.step (fun p e s m args below meth c T L hx hZ hby hown X hH target ht => XS.iadd X.here hx rfl (hb hby hd) rfl ht) hr
theorem wp_isub {x y : Int32} (hd : Dc bytes pc (.isub) 1 pc')  (hr : Wp b l Z own nm bytes maxL ret R H k j pc' Ls (.int (x - y) :: st) Q) : Wp b l Z own nm bytes maxL ret R H k j pc Ls (.int y :: .int x :: st) Q := by
  obtain ⟨hd, rfl⟩ := hd
  exact Wp.step (fun p e s m args below meth c T L hx hZ hby hown X hH target ht => XS.isub X.here hx rfl (hb hby hd) rfl ht) hr
theorem wp_iand {x y : Int32} (hd : Dc bytes pc (.iand) 1 pc')  (hr : Wp b l Z own nm bytes maxL ret R H k j pc' Ls (.int (x &&& y) :: st) Q) : Wp b l Z own nm bytes maxL ret R H k j pc Ls (.int y :: .int x :: st) Q := by
  obtain ⟨hd, rfl⟩ := hd
  exact Wp.step (fun p e s m args below meth c T L hx hZ hby hown X hH target ht => XS.iand X.here hx rfl (hb hby hd) rfl ht) hr
theorem wp_imul {x y : Int32} (hd : Dc bytes pc (.imul) 1 pc')  (hr : Wp b l Z own nm bytes maxL ret R H k j pc' Ls (.int (x * y) :: st) Q) : Wp b l Z own nm bytes maxL ret R H k j pc Ls (.int y :: .int x :: st) Q := by
  obtain ⟨hd, rfl⟩ := hd
  exact Wp.step (fun p e s m args below meth c T L hx hZ hby hown X hH target ht => XS.imul X.here hx rfl (hb hby hd) rfl ht) hr
theorem wp_ixor {x y : Int32} (hd : Dc bytes pc (.ixor) 1 pc')  (hr : Wp b l Z own nm bytes maxL ret R H k j pc' Ls (.int (x ^^^ y) :: st) Q) : Wp b l Z own nm bytes maxL ret R H k j pc Ls (.int y :: .int x :: st) Q := by
  obtain ⟨hd, rfl⟩ := hd
  exact Wp.step (fun p e s m args below meth c T L hx hZ hby hown X hH target ht => XT.ixor X.here hx rfl (hb hby hd) rfl ht) hr
theorem wp_ior {x y : Int32} (hd : Dc bytes pc (.ior) 1 pc')  (hr : Wp b l Z own nm bytes maxL ret R H k j pc' Ls (.int (x ||| y) :: st) Q) : Wp b l Z own nm bytes maxL ret R H k j pc Ls (.int y :: .int x :: st) Q := by
  obtain ⟨hd, rfl⟩ := hd
  exact Wp.step (fun p e s m args below meth c T L hx hZ hby hown X hH target ht => XT.ior X.here hx rfl (hb hby hd) rfl ht) hr
theorem wp_ishl {x y : Int32} (hd : Dc bytes pc (.ishl) 1 pc')  (hr : Wp b l Z own nm bytes maxL ret R H k j pc' Ls (.int (x <<< (y &&& 31)) :: st) Q) : Wp b l Z own nm bytes maxL ret R H k j pc Ls (.int y :: .int x :: st) Q := by
  obtain ⟨hd, rfl⟩ := hd
  exact Wp.step (fun p e s m args below meth c T L hx hZ hby hown X hH target ht => XT.ishl X.here hx rfl (hb hby hd) rfl ht) hr
theorem wp_ishr {x y : Int32} (hd : Dc bytes pc (.ishr) 1 pc')  (hr : Wp b l Z own nm bytes maxL ret R H k j pc' Ls (.int (x >>> (y &&& 31)) :: st) Q) : Wp b l Z own nm bytes maxL ret R H k j pc Ls (.int y :: .int x :: st) Q := by
  obtain ⟨hd, rfl⟩ := hd
  exact Wp.step (fun p e s m args below meth c T L hx hZ hby hown X hH target ht => XT.ishr X.here hx rfl (hb hby hd) rfl ht) hr
theorem wp_iushr {x y : Int32} (hd : Dc bytes pc (.iushr) 1 pc')  (hr : Wp b l Z own nm bytes maxL ret R H k j pc' Ls (.int (XT.ushr x y) :: st) Q) : Wp b l Z own nm bytes maxL ret R H k j pc Ls (.int y :: .int x :: st) Q := by
  obtain ⟨hd, rfl⟩ := hd
  exact Wp.step (fun p e s m args below meth c T L hx hZ hby hown X hH target ht => XT.iushr X.here hx rfl (hb hby hd) rfl ht) hr
theorem wp_idiv {x y : Int32} (hd : Dc bytes pc (.idiv) 1 pc') (hy : y ≠ 0) (hr : Wp b l Z own nm bytes maxL ret R H k j pc' Ls (.int (x / y) :: st) Q) : Wp b l Z own nm bytes maxL ret R H k j pc Ls (.int y :: .int x :: st) Q := by
  obtain ⟨hd, rfl⟩ := hd
  exact Wp.step (fun p e s m args below meth c T L hx hZ hby hown X hH target ht => XS.idiv X.here hx rfl (hb hby hd) rfl hy ht) hr
theorem wp_irem {x y : Int32} (hd : Dc bytes pc (.irem) 1 pc') (hy : y ≠ 0) (hr : Wp b l Z own nm bytes maxL ret R H k j pc' Ls (.int (x % y) :: st) Q) : Wp b l Z own nm bytes maxL ret R H k j pc Ls (.int y :: .int x :: st) Q := by
  obtain ⟨hd, rfl⟩ := hd
  exact Wp.step (fun p e s m args below meth c T L hx hZ hby hown X hH target ht => iremM X hx rfl (hb hby hd) rfl hy ht) hr
theorem wp_ineg {x : Int32} (hd : Dc bytes pc (.ineg) 1 pc')  (hr : Wp b l Z own nm bytes maxL ret R H k j pc' Ls (.int (-x) :: st) Q) : Wp b l Z own nm bytes maxL ret R H k j pc Ls (.int x :: st) Q := by
  obtain ⟨hd, rfl⟩ := hd
  exact Wp.step (fun p e s m args below meth c T L hx hZ hby hown X hH target ht => XS.ineg X.here hx rfl (hb hby hd) rfl ht) hr
theorem wp_ladd {x y : Int64} (hd : Dc bytes pc (.ladd) 1 pc')  (hr : Wp b l Z own nm bytes maxL ret R H k j pc' Ls (.long (x + y) :: st) Q) : Wp b l Z own nm bytes maxL ret R H k j pc Ls (.long y :: .long x :: st) Q := by
  obtain ⟨hd, rfl⟩ := hd
  exact Wp.step (fun p e s m args below meth c T L hx hZ hby hown X hH target ht => XT.ladd X.here hx rfl (hb hby hd) rfl ht) hr
theorem wp_lsub {x y : Int64} (hd : Dc bytes pc (.lsub) 1 pc')  (hr : Wp b l Z own nm bytes maxL ret R H k j pc' Ls (.long (x - y) :: st) Q) : Wp b l Z own nm bytes maxL ret R H k j pc Ls (.long y :: .long x :: st) Q := by
  obtain ⟨hd, rfl⟩ := hd
  exact Wp.step (fun p e s m args below meth c T L hx hZ hby hown X hH target ht => XT.lsub X.here hx rfl (hb hby hd) rfl ht) hr
theorem wp_lmul {x y : Int64} (hd : Dc bytes pc (.lmul) 1 pc')  (hr : Wp b l Z own nm bytes maxL ret R H k j pc' Ls (.long (x * y) :: st) Q) : Wp b l Z own nm bytes maxL ret R H k j pc Ls (.long y :: .long x :: st) Q := by
  obtain ⟨hd, rfl⟩ := hd
  exact Wp.step (fun p e s m args below meth c T L hx hZ hby hown X hH target ht => XT.lmul X.here hx rfl (hb hby hd) rfl ht) hr
theorem wp_land {x y : Int64} (hd : Dc bytes pc (.land) 1 pc')  (hr : Wp b l Z own nm bytes maxL ret R H k j pc' Ls (.long (x &&& y) :: st) Q) : Wp b l Z own nm bytes maxL ret R H k j pc Ls (.long y :: .long x :: st) Q := by
  obtain ⟨hd, rfl⟩ := hd
  exact Wp.step (fun p e s m args below meth c T L hx hZ hby hown X hH target ht => XT.land X.here hx rfl (hb hby hd) rfl ht) hr
theorem wp_lor {x y : Int64} (hd : Dc bytes pc (.lor) 1 pc')  (hr : Wp b l Z own nm bytes maxL ret R H k j pc' Ls (.long (x ||| y) :: st) Q) : Wp b l Z own nm bytes maxL ret R H k j pc Ls (.long y :: .long x :: st) Q := by
  obtain ⟨hd, rfl⟩ := hd
  exact Wp.step (fun p e s m args below meth c T L hx hZ hby hown X hH target ht => XT.lor X.here hx rfl (hb hby hd) rfl ht) hr
theorem wp_lxor {x y : Int64} (hd : Dc bytes pc (.lxor) 1 pc')  (hr : Wp b l Z own nm bytes maxL ret R H k j pc' Ls (.long (x ^^^ y) :: st) Q) : Wp b l Z own nm bytes maxL ret R H k j pc Ls (.long y :: .long x :: st) Q := by
  obtain ⟨hd, rfl⟩ := hd
  exact Wp.step (fun p e s m args below meth c T L hx hZ hby hown X hH target ht => XT.lxor X.here hx rfl (hb hby hd) rfl ht) hr
theorem wp_lshl {x : Int64} {y : Int32} (hd : Dc bytes pc (.lshl) 1 pc')  (hr : Wp b l Z own nm bytes maxL ret R H k j pc' Ls (.long (x <<< (y.toInt64 &&& 63)) :: st) Q) : Wp b l Z own nm bytes maxL ret R H k j pc Ls (.int y :: .long x :: st) Q := by
  obtain ⟨hd, rfl⟩ := hd
  exact Wp.step (fun p e s m args below meth c T L hx hZ hby hown X hH target ht => XT.lshl X.here hx rfl (hb hby hd) rfl ht) hr
theorem wp_lshr {x : Int64} {y : Int32} (hd : Dc bytes pc (.lshr) 1 pc')  (hr : Wp b l Z own nm bytes maxL ret R H k j pc' Ls (.long (x >>> (y.toInt64 &&& 63)) :: st) Q) : Wp b l Z own nm bytes maxL ret R H k j pc Ls (.int y :: .long x :: st) Q := by
  obtain ⟨hd, rfl⟩ := hd
  exact Wp.step (fun p e s m args below meth c T L hx hZ hby hown X hH target ht => XT.lshr X.here hx rfl (hb hby hd) rfl ht) hr
theorem wp_lushr {x : Int64} {y : Int32} (hd : Dc bytes pc (.lushr) 1 pc')  (hr : Wp b l Z own nm bytes maxL ret R H k j pc' Ls (.long (XT.ushrL x y) :: st) Q) : Wp b l Z own nm bytes maxL ret R H k j pc Ls (.int y :: .long x :: st) Q := by
  obtain ⟨hd, rfl⟩ := hd
  exact Wp.step (fun p e s m args below meth c T L hx hZ hby hown X hH target ht => XT.lushr X.here hx rfl (hb hby hd) rfl ht) hr
theorem wp_ldiv {x y : Int64} (hd : Dc bytes pc (.ldiv) 1 pc') (hy : y ≠ 0) (hr : Wp b l Z own nm bytes maxL ret R H k j pc' Ls (.long (x / y) :: st) Q) : Wp b l Z own nm bytes maxL ret R H k j pc Ls (.long y :: .long x :: st) Q := by
  obtain ⟨hd, rfl⟩ := hd
  exact Wp.step (fun p e s m args below meth c T L hx hZ hby hown X hH target ht => XT.ldiv X.here hx rfl (hb hby hd) rfl hy ht) hr
theorem wp_lrem {x y : Int64} (hd : Dc bytes pc (.lrem) 1 pc') (hy : y ≠ 0) (hr : Wp b l Z own nm bytes maxL ret R H k j pc' Ls (.long (x - (x / y) * y) :: st) Q) : Wp b l Z own nm bytes maxL ret R H k j pc Ls (.long y :: .long x :: st) Q := by
  obtain ⟨hd, rfl⟩ := hd
  exact Wp.step (fun p e s m args below meth c T L hx hZ hby hown X hH target ht => XT.lrem X.here hx rfl (hb hby hd) rfl hy ht) hr
theorem wp_lneg {x : Int64} (hd : Dc bytes pc (.lneg) 1 pc')  (hr : Wp b l Z own nm bytes maxL ret R H k j pc' Ls (.long (-x) :: st) Q) : Wp b l Z own nm bytes maxL ret R H k j pc Ls (.long x :: st) Q := by
  obtain ⟨hd, rfl⟩ := hd
  exact Wp.step (fun p e s m args below meth c T L hx hZ hby hown X hH target ht => XT.lneg X.here hx rfl (hb hby hd) rfl ht) hr
theorem wp_i2l {x : Int32} (hd : Dc bytes pc (.i2l) 1 pc')  (hr : Wp b l Z own nm bytes maxL ret R H k j pc' Ls (.long x.toInt64 :: st) Q) : Wp b l Z own nm bytes maxL ret R H k j pc Ls (.int x :: st) Q := by
  obtain ⟨hd, rfl⟩ := hd
  exact Wp.step (fun p e s m args below meth c T L hx hZ hby hown X hH target ht => XT.i2l X.here hx rfl (hb hby hd) rfl ht) hr
theorem wp_l2i {x : Int64} (hd : Dc bytes pc (.l2i) 1 pc')  (hr : Wp b l Z own nm bytes maxL ret R H k j pc' Ls (.int x.toInt32 :: st) Q) : Wp b l Z own nm bytes maxL ret R H k j pc Ls (.long x :: st) Q := by
  obtain ⟨hd, rfl⟩ := hd
  exact Wp.step (fun p e s m args below meth c T L hx hZ hby hown X hH target ht => XT.l2i X.here hx rfl (hb hby hd) rfl ht) hr
theorem wp_i2b {x : Int32} (hd : Dc bytes pc (.i2b) 1 pc')  (hr : Wp b l Z own nm bytes maxL ret R H k j pc' Ls (.int x.toInt8.toInt32 :: st) Q) : Wp b l Z own nm bytes maxL ret R H k j pc Ls (.int x :: st) Q := by
  obtain ⟨hd, rfl⟩ := hd
  exact Wp.step (fun p e s m args below meth c T L hx hZ hby hown X hH target ht => XT.i2b X.here hx rfl (hb hby hd) rfl ht) hr
theorem wp_i2c {x : Int32} (hd : Dc bytes pc (.i2c) 1 pc')  (hr : Wp b l Z own nm bytes maxL ret R H k j pc' Ls (.int x.toUInt32.toUInt16.toUInt32.toInt32 :: st) Q) : Wp b l Z own nm bytes maxL ret R H k j pc Ls (.int x :: st) Q := by
  obtain ⟨hd, rfl⟩ := hd
  exact Wp.step (fun p e s m args below meth c T L hx hZ hby hown X hH target ht => XT.i2c X.here hx rfl (hb hby hd) rfl ht) hr
theorem wp_i2s {x : Int32} (hd : Dc bytes pc (.i2s) 1 pc')  (hr : Wp b l Z own nm bytes maxL ret R H k j pc' Ls (.int x.toInt16.toInt32 :: st) Q) : Wp b l Z own nm bytes maxL ret R H k j pc Ls (.int x :: st) Q := by
  obtain ⟨hd, rfl⟩ := hd
  exact Wp.step (fun p e s m args below meth c T L hx hZ hby hown X hH target ht => XT.i2s X.here hx rfl (hb hby hd) rfl ht) hr
theorem wp_lcmp {x y : Int64} (hd : Dc bytes pc (.lcmp) 1 pc')  (hr : Wp b l Z own nm bytes maxL ret R H k j pc' Ls (.int (XT.cmpL x y) :: st) Q) : Wp b l Z own nm bytes maxL ret R H k j pc Ls (.long y :: .long x :: st) Q := by
  obtain ⟨hd, rfl⟩ := hd
  exact Wp.step (fun p e s m args below meth c T L hx hZ hby hown X hH target ht => XT.lcmp X.here hx rfl (hb hby hd) rfl ht) hr
theorem wp_iload_n {n : Fin 4} {v : Int32} (hd : Dc bytes pc (.iload_n n) 1 pc') (hl : Ls[n.val]? = some (.val (.int v))) (hr : Wp b l Z own nm bytes maxL ret R H k j pc' Ls (.int v :: st) Q) : Wp b l Z own nm bytes maxL ret R H k j pc Ls st Q := by
  obtain ⟨hd, rfl⟩ := hd
  exact Wp.step (fun p e s m args below meth c T L hx hZ hby hown X hH target ht => XS.iloadN X.here hx rfl (hb hby hd) hl ht) hr
theorem wp_iload {n : Nat} {v : Int32} (hd : Dc bytes pc (.iload n) 2 pc') (hl : Ls[n]? = some (.val (.int v))) (hr : Wp b l Z own nm bytes maxL ret R H k j pc' Ls (.int v :: st) Q) : Wp b l Z own nm bytes maxL ret R H k j pc Ls st Q := by
  obtain ⟨hd, rfl⟩ := hd
  exact Wp.step (fun p e s m args below meth c T L hx hZ hby hown X hH target ht => XS.iload X.here hx rfl (hb hby hd) hl ht) hr
theorem wp_lload_n {n : Fin 4} {v : Int64} (hd : Dc bytes pc (.lload_n n) 1 pc') (hl : Ls[n.val]? = some (.val (.long v))) (hr : Wp b l Z own nm bytes maxL ret R H k j pc' Ls (.long v :: st) Q) : Wp b l Z own nm bytes maxL ret R H k j pc Ls st Q := by
  obtain ⟨hd, rfl⟩ := hd
  exact Wp.step (fun p e s m args below meth c T L hx hZ hby hown X hH target ht => XT.lloadN X.here hx rfl (hb hby hd) hl ht) hr
theorem wp_lload {n : Nat} {v : Int64} (hd : Dc bytes pc (.lload n) 2 pc') (hl : Ls[n]? = some (.val (.long v))) (hr : Wp b l Z own nm bytes maxL ret R H k j pc' Ls (.long v :: st) Q) : Wp b l Z own nm bytes maxL ret R H k j pc Ls st Q := by
  obtain ⟨hd, rfl⟩ := hd
  exact Wp.step (fun p e s m args below meth c T L hx hZ hby hown X hH target ht => XT.lload X.here hx rfl (hb hby hd) hl ht) hr
theorem wp_aload_n {n : Fin 4} {v : Value} (hd : Dc bytes pc (.aload_n n) 1 pc') (hl : Ls[n.val]? = some (.val v)) (hv : v.isRef = true) (hr : Wp b l Z own nm bytes maxL ret R H k j pc' Ls (v :: st) Q) : Wp b l Z own nm bytes maxL ret R H k j pc Ls st Q := by
  obtain ⟨hd, rfl⟩ := hd
  exact Wp.step (fun p e s m args below meth c T L hx hZ hby hown X hH target ht => XS.aloadN X.here hx rfl (hb hby hd) hl hv ht) hr
theorem wp_aload {n : Nat} {v : Value} (hd : Dc bytes pc (.aload n) 2 pc') (hl : Ls[n]? = some (.val v)) (hv : v.isRef = true) (hr : Wp b l Z own nm bytes maxL ret R H k j pc' Ls (v :: st) Q) : Wp b l Z own nm bytes maxL ret R H k j pc Ls st Q := by
  obtain ⟨hd, rfl⟩ := hd
  exact Wp.step (fun p e s m args below meth c T L hx hZ hby hown X hH target ht => XS.aload X.here hx rfl (hb hby hd) hl hv ht) hr
theorem wp_istore_n {n : Fin 4} {x : Int32} (Ls' : Array Slot) (hd : Dc bytes pc (.istore_n n) 1 pc') (hl : storeLocals Ls n.val (.int x) = some Ls') (hr : Wp b l Z own nm bytes maxL ret R H k j pc' Ls' st Q) : Wp b l Z own nm bytes maxL ret R H k j pc Ls (.int x :: st) Q := by
  obtain ⟨hd, rfl⟩ := hd
  exact Wp.step (fun p e s m args below meth c T L hx hZ hby hown X hH target ht => XS.istoreN X.here hx rfl (hb hby hd) rfl hl ht) hr
theorem wp_istore {n : Nat} {x : Int32} (Ls' : Array Slot) (hd : Dc bytes pc (.istore n) 2 pc') (hl : storeLocals Ls n (.int x) = some Ls') (hr : Wp b l Z own nm bytes maxL ret R H k j pc' Ls' st Q) : Wp b l Z own nm bytes maxL ret R H k j pc Ls (.int x :: st) Q := by
  obtain ⟨hd, rfl⟩ := hd
  exact Wp.step (fun p e s m args below meth c T L hx hZ hby hown X hH target ht => XS.istore X.here hx rfl (hb hby hd) rfl hl ht) hr
theorem wp_lstore_n {n : Fin 4} {x : Int64} (Ls' : Array Slot) (hd : Dc bytes pc (.lstore_n n) 1 pc') (hl : storeLocals Ls n.val (.long x) = some Ls') (hr : Wp b l Z own nm bytes maxL ret R H k j pc' Ls' st Q) : Wp b l Z own nm bytes maxL ret R H k j pc Ls (.long x :: st) Q := by
  obtain ⟨hd, rfl⟩ := hd
  exact Wp.step (fun p e s m args below meth c T L hx hZ hby hown X hH target ht => XT.lstoreN X.here hx rfl (hb hby hd) rfl hl ht) hr
theorem wp_lstore {n : Nat} {x : Int64} (Ls' : Array Slot) (hd : Dc bytes pc (.lstore n) 2 pc') (hl : storeLocals Ls n (.long x) = some Ls') (hr : Wp b l Z own nm bytes maxL ret R H k j pc' Ls' st Q) : Wp b l Z own nm bytes maxL ret R H k j pc Ls (.long x :: st) Q := by
  obtain ⟨hd, rfl⟩ := hd
  exact Wp.step (fun p e s m args below meth c T L hx hZ hby hown X hH target ht => XT.lstore X.here hx rfl (hb hby hd) rfl hl ht) hr
theorem wp_astore_n {n : Fin 4} {x : Value} (Ls' : Array Slot) (hd : Dc bytes pc (.astore_n n) 1 pc') (hv : x.isRef = true) (hl : storeLocals Ls n.val x = some Ls') (hr : Wp b l Z own nm bytes maxL ret R H k j pc' Ls' st Q) : Wp b l Z own nm bytes maxL ret R H k j pc Ls (x :: st) Q := by
  obtain ⟨hd, rfl⟩ := hd
  exact Wp.step (fun p e s m args below meth c T L hx hZ hby hown X hH target ht => XS.astoreN X.here hx rfl (hb hby hd) rfl hv hl ht) hr
theorem wp_astore {n : Nat} {x : Value} (Ls' : Array Slot) (hd : Dc bytes pc (.astore n) 2 pc') (hv : x.isRef = true) (hl : storeLocals Ls n x = some Ls') (hr : Wp b l Z own nm bytes maxL ret R H k j pc' Ls' st Q) : Wp b l Z own nm bytes maxL ret R H k j pc Ls (x :: st) Q := by
  obtain ⟨hd, rfl⟩ := hd
  exact Wp.step (fun p e s m args below meth c T L hx hZ hby hown X hH target ht => XS.astore X.here hx rfl (hb hby hd) rfl hv hl ht) hr
theorem wp_iinc {n : Nat} {c : Int} {x : Int32} (v : Int32) (Ls' : Array Slot) (hd : Dc bytes pc (.iinc n c) 3 pc') (hv : Int32.ofInt c = v) (hl : Ls[n]? = some (.val (.int x))) (hl' : storeLocals Ls n (.int (x + v)) = some Ls') (hr : Wp b l Z own nm bytes maxL ret R H k j pc' Ls' st Q) : Wp b l Z own nm bytes maxL ret R H k j pc Ls st Q := by
  obtain ⟨hd, rfl⟩ := hd
  exact Wp.step (fun p e s m args below meth c T L hx hZ hby hown X hH target ht => XT.iincV X.here hx rfl v (hb hby hd) hv hl hl' ht) hr
theorem wp_iconst {i : Int} (v : Int32) (hd : Dc bytes pc (.iconst i) 1 pc') (hv : Int32.ofInt i = v) (hr : Wp b l Z own nm bytes maxL ret R H k j pc' Ls (.int v :: st) Q) : Wp b l Z own nm bytes maxL ret R H k j pc Ls st Q := by
  obtain ⟨hd, rfl⟩ := hd
  exact Wp.step (fun p e s m args below meth c T L hx hZ hby hown X hH target ht => XT.iconstV X.here hx rfl v (hb hby hd) hv ht) hr
theorem wp_bipush {i : Int} (v : Int32) (hd : Dc bytes pc (.bipush i) 2 pc') (hv : (Int8.ofInt i).toInt32 = v) (hr : Wp b l Z own nm bytes maxL ret R H k j pc' Ls (.int v :: st) Q) : Wp b l Z own nm bytes maxL ret R H k j pc Ls st Q := by
  obtain ⟨hd, rfl⟩ := hd
  exact Wp.step (fun p e s m args below meth c T L hx hZ hby hown X hH target ht => XT.bipushV X.here hx rfl v (hb hby hd) hv ht) hr
theorem wp_sipush {i : Int} (v : Int32) (hd : Dc bytes pc (.sipush i) 3 pc') (hv : (Int16.ofInt i).toInt32 = v) (hr : Wp b l Z own nm bytes maxL ret R H k j pc' Ls (.int v :: st) Q) : Wp b l Z own nm bytes maxL ret R H k j pc Ls st Q := by
  obtain ⟨hd, rfl⟩ := hd
  exact Wp.step (fun p e s m args below meth c T L hx hZ hby hown X hH target ht => XT.sipushV X.here hx rfl v (hb hby hd) hv ht) hr
theorem wp_lconst {i : Fin 2} (v : Int64) (hd : Dc bytes pc (.lconst i) 1 pc') (hv : Int64.ofNat i = v) (hr : Wp b l Z own nm bytes maxL ret R H k j pc' Ls (.long v :: st) Q) : Wp b l Z own nm bytes maxL ret R H k j pc Ls st Q := by
  obtain ⟨hd, rfl⟩ := hd
  exact Wp.step (fun p e s m args below meth c T L hx hZ hby hown X hH target ht => XT.lconstV X.here hx rfl v (hb hby hd) hv ht) hr
theorem wp_aconst_null  (hd : Dc bytes pc (.aconst_null) 1 pc')  (hr : Wp b l Z own nm bytes maxL ret R H k j pc' Ls (.null :: st) Q) : Wp b l Z own nm bytes maxL ret R H k j pc Ls st Q := by
  obtain ⟨hd, rfl⟩ := hd
  exact Wp.step (fun p e s m args below meth c T L hx hZ hby hown X hH target ht => XS.aconstNull X.here hx rfl (hb hby hd)  ht) hr
theorem wp_dup {x : Value} (hd : Dc bytes pc (.dup) 1 pc') (hc : x.category = 1) (hr : Wp b l Z own nm bytes maxL ret R H k j pc' Ls (x :: x :: st) Q) : Wp b l Z own nm bytes maxL ret R H k j pc Ls (x :: st) Q := by
  obtain ⟨hd, rfl⟩ := hd
  exact Wp.step (fun p e s m args below meth c T L hx hZ hby hown X hH target ht => XS.dup X.here hx rfl (hb hby hd) rfl hc ht) hr
theorem wp_pop {x : Value} (hd : Dc bytes pc (.pop) 1 pc') (hc : x.category = 1) (hr : Wp b l Z own nm bytes maxL ret R H k j pc' Ls st Q) : Wp b l Z own nm bytes maxL ret R H k j pc Ls (x :: st) Q := by
  obtain ⟨hd, rfl⟩ := hd
  exact Wp.step (fun p e s m args below meth c T L hx hZ hby hown X hH target ht => XT.pop X.here hx rfl (hb hby hd) rfl hc ht) hr
theorem wp_dup_x1 {x y : Value} (hd : Dc bytes pc (.dup_x1) 1 pc') (hc : x.category = 1) (hc' : y.category = 1) (hr : Wp b l Z own nm bytes maxL ret R H k j pc' Ls (x :: y :: x :: st) Q) : Wp b l Z own nm bytes maxL ret R H k j pc Ls (x :: y :: st) Q := by
  obtain ⟨hd, rfl⟩ := hd
  exact Wp.step (fun p e s m args below meth c T L hx hZ hby hown X hH target ht => XT.dupX1 X.here hx rfl (hb hby hd) rfl hc hc' ht) hr
theorem wp_dup2 {x y : Value} (hd : Dc bytes pc (.dup2) 1 pc') (hc : x.category = 1) (hc' : y.category = 1) (hr : Wp b l Z own nm bytes maxL ret R H k j pc' Ls (x :: y :: x :: y :: st) Q) : Wp b l Z own nm bytes maxL ret R H k j pc Ls (x :: y :: st) Q := by
  obtain ⟨hd, rfl⟩ := hd
  exact Wp.step (fun p e s m args below meth c T L hx hZ hby hown X hH target ht => XT.dup2 X.here hx rfl (hb hby hd) rfl hc hc' ht) hr
theorem wp_dup2L {x : Int64} (hd : Dc bytes pc (.dup2) 1 pc')  (hr : Wp b l Z own nm bytes maxL ret R H k j pc' Ls (.long x :: .long x :: st) Q) : Wp b l Z own nm bytes maxL ret R H k j pc Ls (.long x :: st) Q := by
  obtain ⟨hd, rfl⟩ := hd
  exact Wp.step (fun p e s m args below meth c T L hx hZ hby hown X hH target ht => XT.dup2L X.here hx rfl (hb hby hd) rfl ht) hr
theorem wp_ldcI {i : Nat} {v : Int32} (hd : Dc bytes pc (.ldc i) 2 pc') (w : (Cond.constant own i v).before a0 Z = true) (hr : Wp b l Z own nm bytes maxL ret R H k j pc' Ls (.int v :: st) Q) : Wp b l Z own nm bytes maxL ret R H k j pc Ls st Q := by
  obtain ⟨hd, rfl⟩ := hd
  exact Wp.step (fun p e s m args below meth c T L hx hZ hby hown X hH target ht => Jvm.Stand.ldcI X hx hown (mvT hZ w) rfl (hb hby hd) ht) hr
theorem wp_ldcWI {i : Nat} {v : Int32} (hd : Dc bytes pc (.ldc_w i) 3 pc') (w : (Cond.constant own i v).before a0 Z = true) (hr : Wp b l Z own nm bytes maxL ret R H k j pc' Ls (.int v :: st) Q) : Wp b l Z own nm bytes maxL ret R H k j pc Ls st Q := by
  obtain ⟨hd, rfl⟩ := hd
  exact Wp.step (fun p e s m args below meth c T L hx hZ hby hown X hH target ht => Jvm.Stand.ldcWI X hx hown (mvT hZ w) rfl (hb hby hd) ht) hr
theorem wp_ldc2J {i : Nat} {v : Int64} (hd : Dc bytes pc (.ldc2_w i) 3 pc') (w : (Cond.constantLong own i v).before a0 Z = true) (hr : Wp b l Z own nm bytes maxL ret R H k j pc' Ls (.long v :: st) Q) : Wp b l Z own nm bytes maxL ret R H k j pc Ls st Q := by
  obtain ⟨hd, rfl⟩ := hd
  exact Wp.step (fun p e s m args below meth c T L hx hZ hby hown X hH target ht => Jvm.Stand.ldc2J X hx hown (mvT hZ w) rfl (hb hby hd) ht) hr
theorem wp_instNull {i : Nat} (hd : Dc bytes pc (.instanceof i) 3 pc')  (hr : Wp b l Z own nm bytes maxL ret R H k j pc' Ls (.int 0 :: st) Q) : Wp b l Z own nm bytes maxL ret R H k j pc Ls (.null :: st) Q := by
  obtain ⟨hd, rfl⟩ := hd
  exact Wp.step (fun p e s m args below meth c T L hx hZ hby hown X hH target ht => X.instanceofNull hx (g := mkF m pc Ls (.null :: st)) rfl rfl (hb hby hd) _ ht) hr
theorem wp_castNull {i : Nat} (hd : Dc bytes pc (.checkcast i) 3 pc')  (hr : Wp b l Z own nm bytes maxL ret R H k j pc' Ls (.null :: st) Q) : Wp b l Z own nm bytes maxL ret R H k j pc Ls (.null :: st) Q := by
  obtain ⟨hd, rfl⟩ := hd
  exact Wp.step (fun p e s m args below meth c T L hx hZ hby hown X hH target ht => X.checkcastNull hx (g := mkF m pc Ls (.null :: st)) rfl rfl (hb hby hd) _ ht) hr
theorem wp_goto {o : Int} {n pc'' : Nat} (hd : Dc bytes pc (.goto o) 3 n) (ht : Tg pc o pc'') (hr : Wp b l Z own nm bytes maxL ret R H k j pc'' Ls st Q) : Wp b l Z own nm bytes maxL ret R H k j pc Ls st Q :=
  Wp.step (fun p e s m args below meth c T L hx hZ hby hown X hH target h => XS.goto X.here hx rfl rfl (hb hby hd.1) ht.1 ht.2 h) hr
theorem wp_icmp {cd : ClassFile.Cond} {o : Int} {x y : Int32} {pc'' : Nat} (hd : Dc bytes pc (.if_icmp cd o) 3 pc') (ht : Tg pc o pc'') (hy : if_icmp.holds cd x y = true → Wp b l Z own nm bytes maxL ret R H k j pc'' Ls st Q) (hn : if_icmp.holds cd x y = false → Wp b l Z own nm bytes maxL ret R H k j pc' Ls st Q) : Wp b l Z own nm bytes maxL ret R H k j pc Ls (.int y :: .int x :: st) Q := by
  obtain ⟨hd, rfl⟩ := hd
  cases hc : if_icmp.holds cd x y with
  | true => exact Wp.step (fun p e s m args below meth c T L hx hZ hby hown X hH target h => XS.icmpYes X.here hx rfl rfl (hb hby hd) rfl hc ht.1 ht.2 h) (hy hc)
  | false => exact Wp.step (fun p e s m args below meth c T L hx hZ hby hown X hH target h => XS.icmpNo X.here hx rfl (hb hby hd) rfl hc h) (hn hc)
theorem wp_if {cd : ClassFile.Cond} {o : Int} {x : Int32} {pc'' : Nat} (hd : Dc bytes pc (.ifCond cd o) 3 pc') (ht : Tg pc o pc'') (hy : ifCond.holds cd x = true → Wp b l Z own nm bytes maxL ret R H k j pc'' Ls st Q) (hn : ifCond.holds cd x = false → Wp b l Z own nm bytes maxL ret R H k j pc' Ls st Q) : Wp b l Z own nm bytes maxL ret R H k j pc Ls (.int x :: st) Q := by
  obtain ⟨hd, rfl⟩ := hd
  cases hc : ifCond.holds cd x with
  | true => exact Wp.step (fun p e s m args below meth c T L hx hZ hby hown X hH target h => XS.ifYes X.here hx rfl rfl (hb hby hd) rfl hc ht.1 ht.2 h) (hy hc)
  | false => exact Wp.step (fun p e s m args below meth c T L hx hZ hby hown X hH target h => XS.ifNo X.here hx rfl (hb hby hd) rfl hc h) (hn hc)
theorem icmp_holds (cd : ClassFile.Cond) (x y : Int32) : (if_icmp.holds .eq x y = decide (x = y)) ∧ (if_icmp.holds .ne x y = !decide (x = y)) ∧ (if_icmp.holds .lt x y = decide (x < y)) ∧ (if_icmp.holds .ge x y = !decide (x < y)) ∧ (if_icmp.holds .gt x y = decide (y < x)) ∧ (if_icmp.holds .le x y = !decide (y < x)) := by
  refine ⟨?_, ?_, ?_, ?_, ?_, ?_⟩
  · by_cases h : x = y <;> simp [h, if_icmp.holds]
  · by_cases h : x = y <;> simp [h, if_icmp.holds]
  · by_cases h : x < y <;> simp [h, if_icmp.holds]
  · by_cases h : x < y
    · simp [h, (tlt h).2.1]
    · simp [h, (flt h).2.1]
  · by_cases h : y < x
    · simp [h, (tlt h).2.2.1]
    · simp [h, (flt h).2.2.1]
  · by_cases h : y < x
    · simp [h, (tlt h).2.2.2]
    · simp [h, (flt h).2.2.2]
theorem wp_icmp_eq {o : Int} {x y : Int32} {pc'' : Nat} (hd : Dc bytes pc (.if_icmp .eq o) 3 pc') (ht : Tg pc o pc'') (hy : x = y → Wp b l Z own nm bytes maxL ret R H k j pc'' Ls st Q) (hn : ¬ x = y → Wp b l Z own nm bytes maxL ret R H k j pc' Ls st Q) : Wp b l Z own nm bytes maxL ret R H k j pc Ls (.int y :: .int x :: st) Q :=
  wp_icmp hd ht (fun h => hy (by rw [(icmp_holds .eq x y).1] at h; simpa using h)) (fun h => hn (by rw [(icmp_holds .eq x y).1] at h; simpa using h))
theorem wp_if_eq {o : Int} {x : Int32} {pc'' : Nat} (hd : Dc bytes pc (.ifCond .eq o) 3 pc') (ht : Tg pc o pc'') (hy : x = 0 → Wp b l Z own nm bytes maxL ret R H k j pc'' Ls st Q) (hn : ¬ x = 0 → Wp b l Z own nm bytes maxL ret R H k j pc' Ls st Q) : Wp b l Z own nm bytes maxL ret R H k j pc Ls (.int x :: st) Q :=
  wp_if hd ht (fun h => hy (by rw [if0, (icmp_holds .eq x 0).1] at h; simpa using h)) (fun h => hn (by rw [if0, (icmp_holds .eq x 0).1] at h; simpa using h))
theorem wp_icmp_ne {o : Int} {x y : Int32} {pc'' : Nat} (hd : Dc bytes pc (.if_icmp .ne o) 3 pc') (ht : Tg pc o pc'') (hy : ¬ x = y → Wp b l Z own nm bytes maxL ret R H k j pc'' Ls st Q) (hn : x = y → Wp b l Z own nm bytes maxL ret R H k j pc' Ls st Q) : Wp b l Z own nm bytes maxL ret R H k j pc Ls (.int y :: .int x :: st) Q :=
  wp_icmp hd ht (fun h => hy (by rw [(icmp_holds .eq x y).2.1] at h; simpa using h)) (fun h => hn (by rw [(icmp_holds .eq x y).2.1] at h; simpa using h))
theorem wp_if_ne {o : Int} {x : Int32} {pc'' : Nat} (hd : Dc bytes pc (.ifCond .ne o) 3 pc') (ht : Tg pc o pc'') (hy : ¬ x = 0 → Wp b l Z own nm bytes maxL ret R H k j pc'' Ls st Q) (hn : x = 0 → Wp b l Z own nm bytes maxL ret R H k j pc' Ls st Q) : Wp b l Z own nm bytes maxL ret R H k j pc Ls (.int x :: st) Q :=
  wp_if hd ht (fun h => hy (by rw [if0, (icmp_holds .eq x 0).2.1] at h; simpa using h)) (fun h => hn (by rw [if0, (icmp_holds .eq x 0).2.1] at h; simpa using h))
theorem wp_icmp_lt {o : Int} {x y : Int32} {pc'' : Nat} (hd : Dc bytes pc (.if_icmp .lt o) 3 pc') (ht : Tg pc o pc'') (hy : x < y → Wp b l Z own nm bytes maxL ret R H k j pc'' Ls st Q) (hn : ¬ x < y → Wp b l Z own nm bytes maxL ret R H k j pc' Ls st Q) : Wp b l Z own nm bytes maxL ret R H k j pc Ls (.int y :: .int x :: st) Q :=
  wp_icmp hd ht (fun h => hy (by rw [(icmp_holds .eq x y).2.2.1] at h; simpa using h)) (fun h => hn (by rw [(icmp_holds .eq x y).2.2.1] at h; simpa using h))
theorem wp_if_lt {o : Int} {x : Int32} {pc'' : Nat} (hd : Dc bytes pc (.ifCond .lt o) 3 pc') (ht : Tg pc o pc'') (hy : x < 0 → Wp b l Z own nm bytes maxL ret R H k j pc'' Ls st Q) (hn : ¬ x < 0 → Wp b l Z own nm bytes maxL ret R H k j pc' Ls st Q) : Wp b l Z own nm bytes maxL ret R H k j pc Ls (.int x :: st) Q :=
  wp_if hd ht (fun h => hy (by rw [if0, (icmp_holds .eq x 0).2.2.1] at h; simpa using h)) (fun h => hn (by rw [if0, (icmp_holds .eq x 0).2.2.1] at h; simpa using h))
theorem wp_icmp_ge {o : Int} {x y : Int32} {pc'' : Nat} (hd : Dc bytes pc (.if_icmp .ge o) 3 pc') (ht : Tg pc o pc'') (hy : ¬ x < y → Wp b l Z own nm bytes maxL ret R H k j pc'' Ls st Q) (hn : x < y → Wp b l Z own nm bytes maxL ret R H k j pc' Ls st Q) : Wp b l Z own nm bytes maxL ret R H k j pc Ls (.int y :: .int x :: st) Q :=
  wp_icmp hd ht (fun h => hy (by rw [(icmp_holds .eq x y).2.2.2.1] at h; simpa using h)) (fun h => hn (by rw [(icmp_holds .eq x y).2.2.2.1] at h; simpa using h))
theorem wp_if_ge {o : Int} {x : Int32} {pc'' : Nat} (hd : Dc bytes pc (.ifCond .ge o) 3 pc') (ht : Tg pc o pc'') (hy : ¬ x < 0 → Wp b l Z own nm bytes maxL ret R H k j pc'' Ls st Q) (hn : x < 0 → Wp b l Z own nm bytes maxL ret R H k j pc' Ls st Q) : Wp b l Z own nm bytes maxL ret R H k j pc Ls (.int x :: st) Q :=
  wp_if hd ht (fun h => hy (by rw [if0, (icmp_holds .eq x 0).2.2.2.1] at h; simpa using h)) (fun h => hn (by rw [if0, (icmp_holds .eq x 0).2.2.2.1] at h; simpa using h))
theorem wp_icmp_gt {o : Int} {x y : Int32} {pc'' : Nat} (hd : Dc bytes pc (.if_icmp .gt o) 3 pc') (ht : Tg pc o pc'') (hy : y < x → Wp b l Z own nm bytes maxL ret R H k j pc'' Ls st Q) (hn : ¬ y < x → Wp b l Z own nm bytes maxL ret R H k j pc' Ls st Q) : Wp b l Z own nm bytes maxL ret R H k j pc Ls (.int y :: .int x :: st) Q :=
  wp_icmp hd ht (fun h => hy (by rw [(icmp_holds .eq x y).2.2.2.2.1] at h; simpa using h)) (fun h => hn (by rw [(icmp_holds .eq x y).2.2.2.2.1] at h; simpa using h))
theorem wp_if_gt {o : Int} {x : Int32} {pc'' : Nat} (hd : Dc bytes pc (.ifCond .gt o) 3 pc') (ht : Tg pc o pc'') (hy : 0 < x → Wp b l Z own nm bytes maxL ret R H k j pc'' Ls st Q) (hn : ¬ 0 < x → Wp b l Z own nm bytes maxL ret R H k j pc' Ls st Q) : Wp b l Z own nm bytes maxL ret R H k j pc Ls (.int x :: st) Q :=
  wp_if hd ht (fun h => hy (by rw [if0, (icmp_holds .eq x 0).2.2.2.2.1] at h; simpa using h)) (fun h => hn (by rw [if0, (icmp_holds .eq x 0).2.2.2.2.1] at h; simpa using h))
theorem wp_icmp_le {o : Int} {x y : Int32} {pc'' : Nat} (hd : Dc bytes pc (.if_icmp .le o) 3 pc') (ht : Tg pc o pc'') (hy : ¬ y < x → Wp b l Z own nm bytes maxL ret R H k j pc'' Ls st Q) (hn : y < x → Wp b l Z own nm bytes maxL ret R H k j pc' Ls st Q) : Wp b l Z own nm bytes maxL ret R H k j pc Ls (.int y :: .int x :: st) Q :=
  wp_icmp hd ht (fun h => hy (by rw [(icmp_holds .eq x y).2.2.2.2.2] at h; simpa using h)) (fun h => hn (by rw [(icmp_holds .eq x y).2.2.2.2.2] at h; simpa using h))
theorem wp_if_le {o : Int} {x : Int32} {pc'' : Nat} (hd : Dc bytes pc (.ifCond .le o) 3 pc') (ht : Tg pc o pc'') (hy : ¬ 0 < x → Wp b l Z own nm bytes maxL ret R H k j pc'' Ls st Q) (hn : 0 < x → Wp b l Z own nm bytes maxL ret R H k j pc' Ls st Q) : Wp b l Z own nm bytes maxL ret R H k j pc Ls (.int x :: st) Q :=
  wp_if hd ht (fun h => hy (by rw [if0, (icmp_holds .eq x 0).2.2.2.2.2] at h; simpa using h)) (fun h => hn (by rw [if0, (icmp_holds .eq x 0).2.2.2.2.2] at h; simpa using h))
theorem cmpL_0 (x y : Int64) : (XT.cmpL x y = 0 ↔ x = y) ∧ (XT.cmpL x y < 0 ↔ x < y) ∧ (0 < XT.cmpL x y ↔ y < x) := by
  unfold XT.cmpL
  by_cases h1 : y < x
  · have h2 : ¬ x = y := by rintro rfl; exact absurd h1 (by simp [Int64.lt_iff_toInt_lt])
    have h3 : ¬ x < y := by rw [Int64.lt_iff_toInt_lt] at h1 ⊢; omega
    simp [h1, h2, h3]
  · by_cases h2 : x = y
    · subst h2; simp [Int64.lt_iff_toInt_lt]
    · have h3 : x < y := by rw [Int64.lt_iff_toInt_lt] at h1 ⊢; have := mt Int64.toInt_inj.mp h2; omega
      simp [h1, h2, h3]
theorem wp_lcmp_eq {o : Int} {x y : Int64} {pc1 pc'' : Nat} (hd0 : Dc bytes pc .lcmp 1 pc1) (hd : Dc bytes pc1 (.ifCond .eq o) 3 pc') (ht : Tg pc1 o pc'') (hy : x = y → Wp b l Z own nm bytes maxL ret R H k j pc'' Ls st Q) (hn : ¬ x = y → Wp b l Z own nm bytes maxL ret R H k j pc' Ls st Q) : Wp b l Z own nm bytes maxL ret R H k j pc Ls (.long y :: .long x :: st) Q :=
  wp_lcmp hd0 (wp_if_eq hd ht (fun h => hy (by rw [(cmpL_0 x y).1] at h; exact h)) (fun h => hn (by rw [(cmpL_0 x y).1] at h; exact h)))
theorem wp_lcmp_ne {o : Int} {x y : Int64} {pc1 pc'' : Nat} (hd0 : Dc bytes pc .lcmp 1 pc1) (hd : Dc bytes pc1 (.ifCond .ne o) 3 pc') (ht : Tg pc1 o pc'') (hy : ¬ x = y → Wp b l Z own nm bytes maxL ret R H k j pc'' Ls st Q) (hn : x = y → Wp b l Z own nm bytes maxL ret R H k j pc' Ls st Q) : Wp b l Z own nm bytes maxL ret R H k j pc Ls (.long y :: .long x :: st) Q :=
  wp_lcmp hd0 (wp_if_ne hd ht (fun h => hy (by rw [(cmpL_0 x y).1] at h; exact h)) (fun h => hn (by rw [(cmpL_0 x y).1] at h; exact h)))
theorem wp_lcmp_lt {o : Int} {x y : Int64} {pc1 pc'' : Nat} (hd0 : Dc bytes pc .lcmp 1 pc1) (hd : Dc bytes pc1 (.ifCond .lt o) 3 pc') (ht : Tg pc1 o pc'') (hy : x < y → Wp b l Z own nm bytes maxL ret R H k j pc'' Ls st Q) (hn : ¬ x < y → Wp b l Z own nm bytes maxL ret R H k j pc' Ls st Q) : Wp b l Z own nm bytes maxL ret R H k j pc Ls (.long y :: .long x :: st) Q :=
  wp_lcmp hd0 (wp_if_lt hd ht (fun h => hy (by rw [(cmpL_0 x y).2.1] at h; exact h)) (fun h => hn (by rw [(cmpL_0 x y).2.1] at h; exact h)))
theorem wp_lcmp_ge {o : Int} {x y : Int64} {pc1 pc'' : Nat} (hd0 : Dc bytes pc .lcmp 1 pc1) (hd : Dc bytes pc1 (.ifCond .ge o) 3 pc') (ht : Tg pc1 o pc'') (hy : ¬ x < y → Wp b l Z own nm bytes maxL ret R H k j pc'' Ls st Q) (hn : x < y → Wp b l Z own nm bytes maxL ret R H k j pc' Ls st Q) : Wp b l Z own nm bytes maxL ret R H k j pc Ls (.long y :: .long x :: st) Q :=
  wp_lcmp hd0 (wp_if_ge hd ht (fun h => hy (by rw [(cmpL_0 x y).2.1] at h; exact h)) (fun h => hn (by rw [(cmpL_0 x y).2.1] at h; exact h)))
theorem wp_lcmp_gt {o : Int} {x y : Int64} {pc1 pc'' : Nat} (hd0 : Dc bytes pc .lcmp 1 pc1) (hd : Dc bytes pc1 (.ifCond .gt o) 3 pc') (ht : Tg pc1 o pc'') (hy : y < x → Wp b l Z own nm bytes maxL ret R H k j pc'' Ls st Q) (hn : ¬ y < x → Wp b l Z own nm bytes maxL ret R H k j pc' Ls st Q) : Wp b l Z own nm bytes maxL ret R H k j pc Ls (.long y :: .long x :: st) Q :=
  wp_lcmp hd0 (wp_if_gt hd ht (fun h => hy (by rw [(cmpL_0 x y).2.2] at h; exact h)) (fun h => hn (by rw [(cmpL_0 x y).2.2] at h; exact h)))
theorem wp_lcmp_le {o : Int} {x y : Int64} {pc1 pc'' : Nat} (hd0 : Dc bytes pc .lcmp 1 pc1) (hd : Dc bytes pc1 (.ifCond .le o) 3 pc') (ht : Tg pc1 o pc'') (hy : ¬ y < x → Wp b l Z own nm bytes maxL ret R H k j pc'' Ls st Q) (hn : y < x → Wp b l Z own nm bytes maxL ret R H k j pc' Ls st Q) : Wp b l Z own nm bytes maxL ret R H k j pc Ls (.long y :: .long x :: st) Q :=
  wp_lcmp hd0 (wp_if_le hd ht (fun h => hy (by rw [(cmpL_0 x y).2.2] at h; exact h)) (fun h => hn (by rw [(cmpL_0 x y).2.2] at h; exact h)))
theorem wp_ifnull_y {o : Int} {n pc'' : Nat} (hd : Dc bytes pc (.ifnull o) 3 n) (ht : Tg pc o pc'') (hr : Wp b l Z own nm bytes maxL ret R H k j pc'' Ls st Q) : Wp b l Z own nm bytes maxL ret R H k j pc Ls (.null :: st) Q :=
  Wp.step (fun p e s m args below meth c T L hx hZ hby hown X hH target h => XS.ifnullYes X.here hx rfl rfl (hb hby hd.1) rfl ht.1 ht.2 h) hr
theorem wp_ifnull_n {o : Int} {x : Addr} (hd : Dc bytes pc (.ifnull o) 3 pc') (hr : Wp b l Z own nm bytes maxL ret R H k j pc' Ls st Q) : Wp b l Z own nm bytes maxL ret R H k j pc Ls (.ref x :: st) Q := by
  obtain ⟨hd, rfl⟩ := hd
  exact Wp.step (fun p e s m args below meth c T L hx hZ hby hown X hH target h => XS.ifnullNo X.here hx rfl (hb hby hd) rfl h) hr
theorem wp_ifnonnull_y {o : Int} {x : Addr} {n pc'' : Nat} (hd : Dc bytes pc (.ifnonnull o) 3 n) (ht : Tg pc o pc'') (hr : Wp b l Z own nm bytes maxL ret R H k j pc'' Ls st Q) : Wp b l Z own nm bytes maxL ret R H k j pc Ls (.ref x :: st) Q :=
  Wp.step (fun p e s m args below meth c T L hx hZ hby hown X hH target h => XT.ifnonnullYes X.here hx rfl rfl (hb hby hd.1) rfl ht.1 ht.2 h) hr
theorem wp_ifnonnull_n {o : Int} (hd : Dc bytes pc (.ifnonnull o) 3 pc') (hr : Wp b l Z own nm bytes maxL ret R H k j pc' Ls st Q) : Wp b l Z own nm bytes maxL ret R H k j pc Ls (.null :: st) Q := by
  obtain ⟨hd, rfl⟩ := hd
  exact Wp.step (fun p e s m args below meth c T L hx hZ hby hown X hH target h => XT.ifnonnullNo X.here hx rfl (hb hby hd) rfl h) hr
theorem wp_acmp {cd : ClassFile.ACond} {o : Int} {x y : Value} {pc'' : Nat} (hd : Dc bytes pc (.if_acmp cd o) 3 pc') (ht : Tg pc o pc'') (h1 : x.isRef = true) (h2 : y.isRef = true) (hy : acV cd (decide (x = y)) = true → Wp b l Z own nm bytes maxL ret R H k j pc'' Ls st Q) (hn : acV cd (decide (x = y)) = false → Wp b l Z own nm bytes maxL ret R H k j pc' Ls st Q) : Wp b l Z own nm bytes maxL ret R H k j pc Ls (y :: x :: st) Q := by
  obtain ⟨hd, rfl⟩ := hd
  cases hc : acV cd (decide (x = y)) with
  | true => exact Wp.step (fun p e s m args below meth c T L hx hZ hby hown X hH target h => acmp X hx rfl h1 h2 (pc0 := pc) rfl (hb hby hd) rfl rfl ht.1 (by rw [if_pos hc]; exact ht.2.symm) h) (hy hc)
  | false => exact Wp.step (fun p e s m args below meth c T L hx hZ hby hown X hH target h => acmp X hx rfl h1 h2 (pc0 := pc) rfl (hb hby hd) rfl rfl ht.1 (by rw [hc]; rfl) h) (hn hc)
theorem wp_acmp_eq {o : Int} {x y : Value} {pc'' : Nat} (hd : Dc bytes pc (.if_acmp .eq o) 3 pc') (ht : Tg pc o pc'') (h1 : x.isRef = true) (h2 : y.isRef = true) (hy : x = y → Wp b l Z own nm bytes maxL ret R H k j pc'' Ls st Q) (hn : ¬ x = y → Wp b l Z own nm bytes maxL ret R H k j pc' Ls st Q) : Wp b l Z own nm bytes maxL ret R H k j pc Ls (y :: x :: st) Q :=
  wp_acmp hd ht h1 h2 (fun h => hy (by simpa [acV] using h)) (fun h => hn (by simpa [acV] using h))
theorem wp_acmp_ne {o : Int} {x y : Value} {pc'' : Nat} (hd : Dc bytes pc (.if_acmp .ne o) 3 pc') (ht : Tg pc o pc'') (h1 : x.isRef = true) (h2 : y.isRef = true) (hy : ¬ x = y → Wp b l Z own nm bytes maxL ret R H k j pc'' Ls st Q) (hn : x = y → Wp b l Z own nm bytes maxL ret R H k j pc' Ls st Q) : Wp b l Z own nm bytes maxL ret R H k j pc Ls (y :: x :: st) Q :=
  wp_acmp hd ht h1 h2 (fun h => hy (by simpa [acV] using h)) (fun h => hn (by simpa [acV] using h))
theorem wp_return  (hd : Dc bytes pc .return_ 1 pc') (hr : ret = none) (hk : k ≤ R.cells) (hj : j ≤ R.slots) (hQ : Q none H) : Wp b l Z own nm bytes maxL ret R H k j pc Ls [] Q :=
  fun p e s vm0 k0 m args below meth c T L hx hZ hS hkz hby hml hown hnm hret X N hH => ⟨T, none, L, k, j, vm0, k0, H, ⟨hS, hkz, fun _ => rfl⟩, X, ⟨hk, hj, Nat.le_refl _⟩, N, hH, fun h => by first | rfl | (rw [hr] at h; cases h), hQ, fun fs hl => X.returnOut hx (hret.trans hr) (hb hby hd.1) hl⟩
theorem wp_ireturn {x : Int32} (hd : Dc bytes pc .ireturn 1 pc') (hr : ret = some .int) (hk : k ≤ R.cells) (hj : j ≤ R.slots) (hQ : Q (some (.int x)) H) : Wp b l Z own nm bytes maxL ret R H k j pc Ls (.int x :: st) Q :=
  fun p e s vm0 k0 m args below meth c T L hx hZ hS hkz hby hml hown hnm hret X N hH => ⟨T, (some (.int x)), L, k, j, vm0, k0, H, ⟨hS, hkz, fun _ => rfl⟩, X, ⟨hk, hj, Nat.le_refl _⟩, N, hH, fun h => by first | rfl | (rw [hr] at h; cases h), hQ, fun fs hl => retOut X hx (hret.trans hr) rfl (Or.inl ⟨rfl, Or.inl rfl, x, rfl⟩) (hb hby hd.1) hl⟩
theorem wp_ireturnN {x : Int32} {t : FieldType} (hd : Dc bytes pc .ireturn 1 pc') (hr : ret = some t) (ht : t = .boolean ∨ t = .byte ∨ t = .char ∨ t = .short) (hk : k ≤ R.cells) (hj : j ≤ R.slots) (hQ : Q (some (.int (nar t x))) H) : Wp b l Z own nm bytes maxL ret R H k j pc Ls (.int x :: st) Q :=
  fun p e s vm0 k0 m args below meth c T L hx hZ hS hkz hby hml hown hnm hret X N hH => ⟨T, (some (.int (nar t x))), L, k, j, vm0, k0, H, ⟨hS, hkz, fun _ => rfl⟩, X, ⟨hk, hj, Nat.le_refl _⟩, N, hH, fun h => by first | rfl | (rw [hr] at h; cases h), hQ, fun fs hl => retN X hx (hret.trans hr) ht (hb hby hd.1) hl⟩
theorem wp_lreturn {x : Int64} (hd : Dc bytes pc .lreturn 1 pc') (hr : ret = some .long) (hk : k ≤ R.cells) (hj : j ≤ R.slots) (hQ : Q (some (.long x)) H) : Wp b l Z own nm bytes maxL ret R H k j pc Ls (.long x :: st) Q :=
  fun p e s vm0 k0 m args below meth c T L hx hZ hS hkz hby hml hown hnm hret X N hH => ⟨T, (some (.long x)), L, k, j, vm0, k0, H, ⟨hS, hkz, fun _ => rfl⟩, X, ⟨hk, hj, Nat.le_refl _⟩, N, hH, fun h => by first | rfl | (rw [hr] at h; cases h), hQ, fun fs hl => retOut X hx (hret.trans hr) rfl (Or.inr (Or.inl ⟨rfl, rfl, x, rfl⟩)) (hb hby hd.1) hl⟩
theorem wp_areturn {x : Value} {t : FieldType} (hd : Dc bytes pc .areturn 1 pc') (hr : ret = some t) (ht : t.isReference = true) (hn : narrow t x = x) (hv : x.isRef = true) (hk : k ≤ R.cells) (hj : j ≤ R.slots) (hQ : Q (some x) H) : Wp b l Z own nm bytes maxL ret R H k j pc Ls (x :: st) Q :=
  fun p e s vm0 k0 m args below meth c T L hx hZ hS hkz hby hml hown hnm hret X N hH => ⟨T, (some x), L, k, j, vm0, k0, H, ⟨hS, hkz, fun _ => rfl⟩, X, ⟨hk, hj, Nat.le_refl _⟩, N, hH, fun h => by first | rfl | (rw [hr] at h; cases h), hQ, fun fs hl => retOut X hx (hret.trans hr) hn (Or.inr (Or.inr (Or.inr (Or.inr ⟨rfl, ht, hv⟩)))) (hb hby hd.1) hl⟩
def FldAt (Z : State) (H : OH) (a : Addr) (O n d : String) (v : Value) : Prop := ∀ h, Hp Z h H → Fld Z h a O n d v
def ExaAt (Z : State) (H : OH) (a : Addr) (C : String) : Prop := ∀ h, Hp Z h H → Exa Z h a C
theorem fld_new {i fi : Nat} {a : Addr} {fl : Bool} {C O n d : String} {sg : OSig} {vs : List Value} {v : Value} (hi : H[i]? = some (a, (fl, .inl (C, sg, vs)))) (hf : sg[fi]? = some (O, n, d)) (hv : vs[fi]? = some v) : FldAt Z H a O n d v := fun h P => (P.at hi).2.2.2 fi _ v hf hv
theorem fld_old {a : Addr} {O n d : String} {v : Value} (F : Fld Z Z.heap a O n d v) : FldAt Z H a O n d v := fun h P => F.ext P.1
theorem exa_new {i : Nat} {a : Addr} {fl : Bool} {C : String} {sg : OSig} {vs : List Value} (hi : H[i]? = some (a, (fl, .inl (C, sg, vs)))) : ExaAt Z H a C := fun h P => (P.at hi).2.1
theorem exa_old {a : Addr} {C : String} (F : Exa Z Z.heap a C) : ExaAt Z H a C := fun h P => F.ext P.1
theorem wp_getfield {a : Addr} {O n d : String} {v : Value} {idx : Nat} (hd : Dc bytes pc (.getfield idx) 3 pc') (w : (Cond.fieldLink own idx O n d).before a0 Z = true) (F : FldAt Z H a O n d v) (hr : Wp b l Z own nm bytes maxL ret R H k j pc' Ls (v :: st) Q) : Wp b l Z own nm bytes maxL ret R H k j pc Ls (.ref a :: st) Q := by
  obtain ⟨hd, rfl⟩ := hd
  refine Wp.stepH fun p e s m args below meth c T L hx hZ hby hml hown hnm hret X N hH => ?_
  obtain ⟨T', X', e', stp⟩ := getF X hx hZ hown (host := "") (Or.inl w) Via.refl rfl (F _ hH) (g := mkF m pc Ls (.ref a :: st)) rfl rfl (hb hby hd)
  exact ⟨T', L, k, j, H, _, Ls, v :: st, X', by rw [e']; exact Nat.le_refl _, N, by rw [e']; exact hH, hr, stp⟩
theorem wp_getfieldVia {a : Addr} {R0 O n d : String} {v : Value} {idx : Nat} (hd : Dc bytes pc (.getfield idx) 3 pc') (w : (Cond.fieldLink own idx R0 n d).before a0 Z = true) (via : Via Z R0 O n d) (F : FldAt Z H a O n d v) (hr : Wp b l Z own nm bytes maxL ret R H k j pc' Ls (v :: st) Q) : Wp b l Z own nm bytes maxL ret R H k j pc Ls (.ref a :: st) Q := by
  obtain ⟨hd, rfl⟩ := hd
  refine Wp.stepH fun p e s m args below meth c T L hx hZ hby hml hown hnm hret X N hH => ?_
  obtain ⟨T', X', e', stp⟩ := getF X hx hZ hown (host := "") (Or.inl w) via rfl (F _ hH) (g := mkF m pc Ls (.ref a :: st)) rfl rfl (hb hby hd)
  exact ⟨T', L, k, j, H, _, Ls, v :: st, X', by rw [e']; exact Nat.le_refl _, N, by rw [e']; exact hH, hr, stp⟩
theorem wp_getstatic {O n d : String} {v : Value} {idx : Nat} (hd : Dc bytes pc (.getstatic idx) 3 pc') (w : (Cond.fieldLink own idx O n d).before a0 Z = true) (F : Sta Z Z.heap O n d v) (hr : Wp b l Z own nm bytes maxL ret R H k j pc' Ls (v :: st) Q) : Wp b l Z own nm bytes maxL ret R H k j pc Ls st Q := by
  obtain ⟨hd, rfl⟩ := hd
  refine Wp.stepH fun p e s m args below meth c T L hx hZ hby hml hown hnm hret X N hH => ?_
  obtain ⟨T', X', e', stp⟩ := getS (host := "") X hx hZ hown w Via.refl rfl (F.ext hH.1) (g := mkF m pc Ls st) rfl (hb hby hd)
  exact ⟨T', L, k, j, H, _, Ls, v :: st, X', by rw [e']; exact Nat.le_refl _, N, by rw [e']; exact hH, hr, stp⟩
theorem Sat.put {h h' : Heap} {a : Addr} {C O n d : String} {sg : OSig} {vs : List Value} {fi : Nat} {v : Value} (S : Sat Z h a (.inl (C, sg, vs))) (hf : sg[fi]? = some (O, n, d)) (W : Wr h h' a (Jvm.RoadKit.slotOf Z O n d) v) : Sat Z h' a (.inl (C, sg, vs.set fi v)) := by
  obtain ⟨S1, S2, S3⟩ := S
  refine ⟨S1.wr W, S2, fun i f u q r => ?_⟩
  rw [List.getElem?_set] at r
  split at r
  · rename_i e; subst e
    split at r
    · rename_i hlt
      cases r
      cases hf.symm.trans q
      exact (S3 fi _ _ hf (List.getElem?_eq_getElem hlt)).same W
    · cases r
  · rename_i ne
    refine (S3 i f u q r).other W (Or.inr ?_)
    have hP := List.pairwise_iff_getElem.mp S2
    obtain ⟨h1, e1⟩ := List.getElem?_eq_some_iff.mp q
    obtain ⟨h2, e2⟩ := List.getElem?_eq_some_iff.mp hf
    rcases Nat.lt_or_gt_of_ne ne with u | u
    · have := hP fi i h2 h1 u; rw [e1, e2] at this; exact Ne.symm this
    · have := hP i fi h1 h2 u; rw [e1, e2] at this; exact this
theorem wp_putfield {i fi kk : Nat} {a : Addr} {C O n d : String} {sg : OSig} {vs : List Value} {v old : Value} {ty : FieldType} {idx : Nat} (hd : Dc bytes pc (.putfield idx) 3 pc') (w : (Cond.fieldLink own idx O n d).before a0 Z = true) (hi : H[i]? = some (a, oI C sg vs)) (hf : sg[fi]? = some (O, n, d)) (ho : vs[fi]? = some old) (L0 : (Cond.lays C O n d).before a0 Z = true ∨ ((Cond.laysFinal C O n d).before a0 Z = true ∧ own = O ∧ nm = "<init>")) (wi : (Cond.instantiable C kk).before a0 Z = true) (hty : parseFieldDescriptor d = some ty) (hn : narrow ty v = v) (hfit : fits ty v = true) (hr : Wp b l Z own nm bytes maxL ret R (H.set i (a, oI C sg (vs.set fi v))) k j pc' Ls st Q) : Wp b l Z own nm bytes maxL ret R H k j pc Ls (v :: .ref a :: st) Q := by
  obtain ⟨hd, rfl⟩ := hd
  refine Wp.stepH fun p e s m args below meth c T L hx hZ hby hml hown hnm hret X N hH => ?_
  have S := (hH.at hi).2
  obtain ⟨T', h', X', e', W', stp⟩ := putF X hx hZ hown (host := "") (Or.inl w) Via.refl rfl (S.2.2 fi _ _ hf ho) S.1 (L0.imp id fun q => ⟨q.1, q.2.1, hnm.trans q.2.2⟩) wi hty hn hfit (g := mkF m pc Ls (v :: .ref a :: st)) rfl rfl (hb hby hd)
  subst e'
  exact ⟨T', _, k, j, _, _, Ls, st, X', by rw [W'.size]; exact Nat.le_refl _, Fr.snoc X' N ((hH.at hi).1 rfl), hH.set hi W' (S.put hf W'), hr, stp⟩
def Dfl : OSig → List Value → Prop
  | [], [] => True
  | f :: sg, v :: vs => (∃ ty, parseFieldDescriptor f.2.2 = some ty ∧ defaultValue ty = v) ∧ Dfl sg vs
  | _, _ => False
theorem Dfl.at : ∀ {sg : OSig} {vs : List Value}, Dfl sg vs → ∀ (i : Nat) (f : String × String × String) (v : Value), sg[i]? = some f → vs[i]? = some v → ∃ ty, parseFieldDescriptor f.2.2 = some ty ∧ defaultValue ty = v
  | [], [], _, i, f, v, q, _ => by simp at q
  | f :: sg, v :: vs, D, 0, f', v', q, r => by simp at q r; subst q r; exact D.1
  | f :: sg, v :: vs, D, i + 1, f', v', q, r => D.2.at i f' v' (by simpa using q) (by simpa using r)
  | [], _ :: _, D, _, _, _, _, _ => D.elim
  | _ :: _, [], D, _, _, _, _, _ => D.elim
theorem Dfl.parse : ∀ {sg : OSig} {vs : List Value}, Dfl sg vs → ∀ f ∈ sg, ∃ ty, parseFieldDescriptor f.2.2 = some ty
  | [], [], _, f, q => by simp at q
  | g :: sg, v :: vs, D, f, q => (List.mem_cons.mp q).elim (fun e => by subst e; exact ⟨D.1.choose, D.1.choose_spec.1⟩) (D.2.parse f)
  | [], _ :: _, D, _, _ => D.elim
  | _ :: _, [], D, _, _ => D.elim
theorem slo_of {C : String} {sg : OSig} {vs : List Value} (D : Dfl sg vs) (hL : ∀ f ∈ sg, Laid Z a0 C f.1 f.2.1 f.2.2) (hn : (sg.map fun f => f.2.1).Nodup) : Slo Z sg := by
  have h1 : sg.Pairwise fun f g => f.2.1 ≠ g.2.1 := List.pairwise_map.mp hn
  refine List.Pairwise.imp_of_mem (fun {f g} hf hg ne => ?_) h1
  obtain ⟨t, ht⟩ := D.parse f hf
  obtain ⟨t', ht'⟩ := D.parse g hg
  exact slot_ne (hL f hf) (hL g hg) ne ht ht'
theorem all_nil {α : Type} {P : α → Prop} : ∀ x ∈ ([] : List α), P x := fun _ q => nomatch q
theorem all_cons {α : Type} {P : α → Prop} {y : α} {L : List α} (q : P y) (r : ∀ x ∈ L, P x) : ∀ x ∈ y :: L, P x := fun x z => (List.mem_cons.mp z).elim (fun u => u ▸ q) (r x)
theorem wp_new {C : String} {idx n : Nat} (sg : OSig) (vs : List Value) (hd : Dc bytes pc (.new idx) 3 pc') (w : (Cond.classLink own idx C).before a0 Z = true) (wi : (Cond.instantiable C n).before a0 Z = true) (wz : (Cond.initialized C).before a0 Z = true) (hL : ∀ f ∈ sg, Laid Z a0 C f.1 f.2.1 f.2.2) (hn : (sg.map fun f => f.2.1).Nodup) (D : Dfl sg vs) (hc : k + 1 ≤ R.cells) (hl : j + n ≤ R.slots) (hr : ∀ a, Wp b l Z own nm bytes maxL ret R ((a, oI C sg vs) :: H) (k + 1) (j + n) pc' Ls (.ref a :: st) Q) : Wp b l Z own nm bytes maxL ret R H k j pc Ls st Q := by
  obtain ⟨hd, rfl⟩ := hd
  refine Wp.stepH fun p e s m args below meth c T L hx hZ hby hml hown hnm hret X N hH => ?_
  obtain ⟨T', h', X', e', E', A', D', -, stp⟩ := newO X hx hZ hown w wi wz rfl (g := mkF m pc Ls st) rfl (hb hby hd) hc hl
  subst e'
  refine ⟨T', L, _, _, _, _, Ls, _, X', E'.1, N, hH.cons E' (o := .inl (C, sg, vs)) ⟨A', slo_of D hL hn, fun i f v q r => ?_⟩, hr _, stp⟩
  obtain ⟨ty, t1, t2⟩ := D.at i f v q r
  rw [← t2]
  exact D' (hL f (List.mem_of_getElem? q)) t1
theorem wp_initO {a : Addr} {idx : Nat} (hd : Dc bytes pc (.invokespecial idx) 3 pc') (w1 : (Cond.methodLink own idx Lib.objectInit).before a0 Z = true) (w2 : (Cond.instanceMethod Lib.objectInit).before a0 Z = true) (w3 : (Cond.code Lib.objectInit ⟨#[0xb1]⟩ 1 none).before a0 Z = true) (hsz : Ls.size = maxL) (hf : 1 ≤ R.frames) (hl : (st.map fun v => v.category).sum + 12 ≤ R.locals) (hr : Wp b l Z own nm bytes maxL ret R H k j pc' Ls st Q) : Wp b l Z own nm bytes maxL ret R H k j pc Ls (.ref a :: st) Q := by
  obtain ⟨hd, rfl⟩ := hd
  refine Wp.stepH fun p e s m args below meth c T L hx hZ hby hml hown hnm hret X N hH => ?_
  obtain ⟨T', X', e', stp⟩ := initO X hx hZ hown w1 w2 w3 rfl (g := mkF m pc Ls (.ref a :: st)) rfl (by rw [hml]; exact hsz) rfl (hb hby hd) hf (W := (st.map fun v => v.category).sum) (by show 2 * 0 + _ ≤ _; omega) hl
  exact ⟨T', L, k, j, H, _, Ls, st, X', by rw [e']; exact Nat.le_refl _, N, by rw [e']; exact hH, hr, stp⟩
theorem wp_newarrayI {aty : ArrayType} {ty : FieldType} {n : Int32} (cnt cap : Nat) (hd : Dc bytes pc (.newarray aty) 2 pc') (hty : newarray.typeOf aty = ty) (hdef : defaultValue ty = .int 0) (hfz : fits ty (.int 0) = true) (w : (Cond.arrayClass ty).before a0 Z = true) (hn : ¬ n < 0) (hcnt : n.toNatClampNeg = cnt) (hcap : cnt ≤ cap) (hb8 : cap * 8 ≤ 536870912) (hc : k + 1 ≤ R.cells) (hl : j + cap ≤ R.slots) (hr : ∀ a, Wp b l Z own nm bytes maxL ret R ((a, oA ty (List.replicate cnt 0)) :: H) (k + 1) (j + cap) pc' Ls (.ref a :: st) Q) : Wp b l Z own nm bytes maxL ret R H k j pc Ls (.int n :: st) Q := by
  obtain ⟨hd, rfl⟩ := hd
  subst hty
  refine Wp.stepH fun p e s m args below meth c T L hx hZ hby hml hown hnm hret X N hH => ?_
  obtain ⟨T', h', cA, X', e', E', A', B', stp⟩ := newPE X hx hZ w rfl (g := mkF m pc Ls (.int n :: st)) rfl (hb hby hd) rfl hn (cap := cap) (by rw [hcnt]; exact hcap) hb8 hc hl rfl
  subst e'
  refine ⟨T', L, _, _, _, _, Ls, _, X', E'.1, N, hH.cons E' (o := .inr (.inl (_, List.replicate cnt 0))) ⟨B', _, A', ?_, fun x hx => ?_⟩, hr _, stp⟩
  · simp [newA, hcnt, hdef]
  · rw [(List.mem_replicate.mp hx).2]; exact hfz
set_option maxHeartbeats 1000000 in
theorem wp_newarrayJ {n : Int32} (cnt cap : Nat) (hd : Dc bytes pc (.newarray .long) 2 pc') (w : (Cond.arrayClass .long).before a0 Z = true) (hn : ¬ n < 0) (hcnt : n.toNatClampNeg = cnt) (hcap : cnt ≤ cap) (hb8 : cap * 8 ≤ 536870912) (hc : k + 1 ≤ R.cells) (hl : j + cap ≤ R.slots) (hr : ∀ a, Wp b l Z own nm bytes maxL ret R ((a, oJ (List.replicate cnt 0)) :: H) (k + 1) (j + cap) pc' Ls (.ref a :: st) Q) : Wp b l Z own nm bytes maxL ret R H k j pc Ls (.int n :: st) Q := by
  obtain ⟨hd, rfl⟩ := hd
  refine Wp.stepH fun p e s m args below meth c T L hx hZ hby hml hown hnm hret X N hH => ?_
  obtain ⟨T', h', cA, X', e', E', A', B', stp⟩ := newPE (aty := .long) (ad := "[J") X hx hZ w rfl (g := mkF m pc Ls (.int n :: st)) rfl (hb hby hd) rfl hn (cap := cap) (by rw [hcnt]; exact hcap) hb8 hc hl rfl
  subst e'
  refine ⟨T', L, _, _, _, _, Ls, _, X', E'.1, N, hH.cons E' (o := .inr (.inr (.inl (List.replicate cnt 0)))) ⟨B', _, A', ?_⟩, hr _, stp⟩
  simp [newA, hcnt, defaultValue, newarray.typeOf]
theorem in_of {j : Int32} {xs : List Value} {c : Cell} {v : Value} (hs : c.slots = xs.toArray) (hj : ¬ j < 0) (hv : xs[j.toNatClampNeg]? = some v) : ¬ (j < 0 ∨ c.slots.size ≤ j.toNatClampNeg) ∧ c.slots[j.toNatClampNeg]? = some v := by
  have h1 := (List.getElem?_eq_some_iff.mp hv).1
  refine ⟨fun q => q.elim hj fun r => ?_, by rw [hs]; simpa using hv⟩
  rw [hs] at r; simp at r; omega
theorem setSlot_list {c : Cell} {xs : List Value} {n : Nat} {v : Value} (hs : c.slots = xs.toArray) : (c.setSlot n v).slots = (xs.set n v).toArray := by simp [Cell.setSlot, hs]
theorem wp_iaload {i : Nat} {a : Addr} {fl : Bool} {xs : List Int32} {n x : Int32} (m : Nat) (hd : Dc bytes pc .iaload 1 pc') (hi : H[i]? = some (a, (fl, .inr (.inl (.int, xs))))) (hn : ¬ n < 0) (hm : n.toNatClampNeg = m) (hv : xs[m]? = some x) (hr : Wp b l Z own nm bytes maxL ret R H k j pc' Ls (.int x :: st) Q) : Wp b l Z own nm bytes maxL ret R H k j pc Ls (.int n :: .ref a :: st) Q := by
  obtain ⟨hd, rfl⟩ := hd
  refine Wp.step (fun p e s m args below meth c T L hx hZ hby hown X hH target h => ?_) hr
  obtain ⟨-, cl, A, hs, -⟩ := (hH.at hi).2
  obtain ⟨h1, h2⟩ := in_of hs hn (v := .int x) (by rw [hm]; simpa using hv)
  exact X.iaload hx A.1 (State.isArrayOf_alike hZ.alike A.2.1) A.2.2 h1 h2 (g := mkF m pc Ls (.int n :: .ref a :: st)) rfl rfl (hb hby hd) _ h
theorem wp_caload {i : Nat} {a : Addr} {fl : Bool} {xs : List Int32} {n x : Int32} (m : Nat) (hd : Dc bytes pc .caload 1 pc') (hi : H[i]? = some (a, (fl, .inr (.inl (.char, xs))))) (hn : ¬ n < 0) (hm : n.toNatClampNeg = m) (hv : xs[m]? = some x) (hr : Wp b l Z own nm bytes maxL ret R H k j pc' Ls (.int x :: st) Q) : Wp b l Z own nm bytes maxL ret R H k j pc Ls (.int n :: .ref a :: st) Q := by
  obtain ⟨hd, rfl⟩ := hd
  refine Wp.step (fun p e s m args below meth c T L hx hZ hby hown X hH target h => ?_) hr
  obtain ⟨-, cl, A, hs, -⟩ := (hH.at hi).2
  obtain ⟨h1, h2⟩ := in_of hs hn (v := .int x) (by rw [hm]; simpa using hv)
  exact X.caload hx A.1 (State.isArrayOf_alike hZ.alike A.2.1) A.2.2 h1 h2 (g := mkF m pc Ls (.int n :: .ref a :: st)) rfl rfl (hb hby hd) _ h
theorem wp_saload {i : Nat} {a : Addr} {fl : Bool} {xs : List Int32} {n x : Int32} (m : Nat) (hd : Dc bytes pc .saload 1 pc') (hi : H[i]? = some (a, (fl, .inr (.inl (.short, xs))))) (hn : ¬ n < 0) (hm : n.toNatClampNeg = m) (hv : xs[m]? = some x) (hr : Wp b l Z own nm bytes maxL ret R H k j pc' Ls (.int x :: st) Q) : Wp b l Z own nm bytes maxL ret R H k j pc Ls (.int n :: .ref a :: st) Q := by
  obtain ⟨hd, rfl⟩ := hd
  refine Wp.step (fun p e s m args below meth c T L hx hZ hby hown X hH target h => ?_) hr
  obtain ⟨-, cl, A, hs, -⟩ := (hH.at hi).2
  obtain ⟨h1, h2⟩ := in_of hs hn (v := .int x) (by rw [hm]; simpa using hv)
  exact X.saload hx A.1 (State.isArrayOf_alike hZ.alike A.2.1) A.2.2 h1 h2 (g := mkF m pc Ls (.int n :: .ref a :: st)) rfl rfl (hb hby hd) _ h
theorem wp_baload {i : Nat} {a : Addr} {fl : Bool} {xs : List Int32} {n x : Int32} (m : Nat) (hd : Dc bytes pc .baload 1 pc') (hi : H[i]? = some (a, (fl, .inr (.inl (.byte, xs))))) (hn : ¬ n < 0) (hm : n.toNatClampNeg = m) (hv : xs[m]? = some x) (hr : Wp b l Z own nm bytes maxL ret R H k j pc' Ls (.int x :: st) Q) : Wp b l Z own nm bytes maxL ret R H k j pc Ls (.int n :: .ref a :: st) Q := by
  obtain ⟨hd, rfl⟩ := hd
  refine Wp.step (fun p e s m args below meth c T L hx hZ hby hown X hH target h => ?_) hr
  obtain ⟨-, cl, A, hs, -⟩ := (hH.at hi).2
  obtain ⟨h1, h2⟩ := in_of hs hn (v := .int x) (by rw [hm]; simpa using hv)
  exact X.baloadBytes hx A.1 (State.isArrayOf_alike hZ.alike A.2.1) A.2.2 h1 h2 (g := mkF m pc Ls (.int n :: .ref a :: st)) rfl rfl (hb hby hd) _ h
theorem wp_zaload {i : Nat} {a : Addr} {fl : Bool} {xs : List Int32} {n x : Int32} (m : Nat) (hd : Dc bytes pc .baload 1 pc') (hi : H[i]? = some (a, (fl, .inr (.inl (.boolean, xs))))) (hn : ¬ n < 0) (hm : n.toNatClampNeg = m) (hv : xs[m]? = some x) (hr : Wp b l Z own nm bytes maxL ret R H k j pc' Ls (.int x :: st) Q) : Wp b l Z own nm bytes maxL ret R H k j pc Ls (.int n :: .ref a :: st) Q := by
  obtain ⟨hd, rfl⟩ := hd
  refine Wp.step (fun p e s m args below meth c T L hx hZ hby hown X hH target h => ?_) hr
  obtain ⟨-, cl, A, hs, -⟩ := (hH.at hi).2
  obtain ⟨h1, h2⟩ := in_of hs hn (v := .int x) (by rw [hm]; simpa using hv)
  exact X.baloadBooleans hx A.1 (State.isArrayOf_alike hZ.alike A.2.1) A.2.2 h1 h2 (g := mkF m pc Ls (.int n :: .ref a :: st)) rfl rfl (hb hby hd) _ h
theorem wp_laload {i : Nat} {a : Addr} {xs : List Int64} {n : Int32} {x : Int64} (m : Nat) (hd : Dc bytes pc .laload 1 pc') (hi : H[i]? = some (a, oJ xs)) (hn : ¬ n < 0) (hm : n.toNatClampNeg = m) (hv : xs[m]? = some x) (hr : Wp b l Z own nm bytes maxL ret R H k j pc' Ls (.long x :: st) Q) : Wp b l Z own nm bytes maxL ret R H k j pc Ls (.int n :: .ref a :: st) Q := by
  obtain ⟨hd, rfl⟩ := hd
  refine Wp.step (fun p e s m args below meth c T L hx hZ hby hown X hH target h => ?_) hr
  obtain ⟨Eq, cl, A, hs⟩ := (hH.at hi).2
  obtain ⟨h1, h2⟩ := in_of hs hn (v := .long x) (by rw [hm]; simpa using hv)
  exact X.laload hx A.1 (State.isArrayOf_alike hZ.alike A.2.1) A.2.2 h1 h2 (g := mkF m pc Ls (.int n :: .ref a :: st)) rfl rfl (hb hby hd) _ h
theorem wp_aaload {i : Nat} {a : Addr} {C : String} {ty : FieldType} {xs : List Value} {n : Int32} {x : Value} (m : Nat) (hd : Dc bytes pc .aaload 1 pc') (hi : H[i]? = some (a, oR C ty xs)) (hty : ty.isReference = true) (hn : ¬ n < 0) (hm : n.toNatClampNeg = m) (hv : xs[m]? = some x) (hr : Wp b l Z own nm bytes maxL ret R H k j pc' Ls (x :: st) Q) : Wp b l Z own nm bytes maxL ret R H k j pc Ls (.int n :: .ref a :: st) Q := by
  obtain ⟨hd, rfl⟩ := hd
  refine Wp.step (fun p e s m args below meth c T L hx hZ hby hown X hH target h => ?_) hr
  obtain ⟨-, cl, A, -, hs, -⟩ := (hH.at hi).2
  obtain ⟨h1, h2⟩ := in_of hs hn (hm.symm ▸ hv)
  exact X.aaload hx A.1 (State.isArrayOf_alike hZ.alike A.2.1) hty A.2.2 h1 h2 (g := mkF m pc Ls (.int n :: .ref a :: st)) rfl rfl (hb hby hd) _ h
theorem wp_lengthI {i : Nat} {a : Addr} {fl : Bool} {ty : FieldType} {xs : List Int32} (n : Int32) (hd : Dc bytes pc .arraylength 1 pc') (hi : H[i]? = some (a, (fl, .inr (.inl (ty, xs))))) (hn : xs.length.toInt32 = n) (hr : Wp b l Z own nm bytes maxL ret R H k j pc' Ls (.int n :: st) Q) : Wp b l Z own nm bytes maxL ret R H k j pc Ls (.ref a :: st) Q := by
  obtain ⟨hd, rfl⟩ := hd
  refine Wp.step (fun p e s m args below meth c T L hx hZ hby hown X hH target h => ?_) hr
  obtain ⟨-, cl, A, hs, -⟩ := (hH.at hi).2
  refine X.arraylength hx A.1 (State.isArrayOf_alike hZ.alike A.2.1) (g := mkF m pc Ls (.ref a :: st)) rfl rfl (hb hby hd) _ ?_
  have e1 : cl.slots.size.toInt32 = n := by rw [hs]; simpa using hn
  rw [e1]; exact h
theorem wp_lengthJ {i : Nat} {a : Addr} {xs : List Int64} (n : Int32) (hd : Dc bytes pc .arraylength 1 pc') (hi : H[i]? = some (a, oJ xs)) (hn : xs.length.toInt32 = n) (hr : Wp b l Z own nm bytes maxL ret R H k j pc' Ls (.int n :: st) Q) : Wp b l Z own nm bytes maxL ret R H k j pc Ls (.ref a :: st) Q := by
  obtain ⟨hd, rfl⟩ := hd
  refine Wp.step (fun p e s m args below meth c T L hx hZ hby hown X hH target h => ?_) hr
  obtain ⟨-, cl, A, hs⟩ := (hH.at hi).2
  refine X.arraylength hx A.1 (State.isArrayOf_alike hZ.alike A.2.1) (g := mkF m pc Ls (.ref a :: st)) rfl rfl (hb hby hd) _ ?_
  have e1 : cl.slots.size.toInt32 = n := by rw [hs]; simpa using hn
  rw [e1]; exact h
theorem wp_lengthR {i : Nat} {a : Addr} {C : String} {ty : FieldType} {xs : List Value} (n : Int32) (hd : Dc bytes pc .arraylength 1 pc') (hi : H[i]? = some (a, oR C ty xs)) (hn : xs.length.toInt32 = n) (hr : Wp b l Z own nm bytes maxL ret R H k j pc' Ls (.int n :: st) Q) : Wp b l Z own nm bytes maxL ret R H k j pc Ls (.ref a :: st) Q := by
  obtain ⟨hd, rfl⟩ := hd
  refine Wp.step (fun p e s m args below meth c T L hx hZ hby hown X hH target h => ?_) hr
  obtain ⟨-, cl, A, -, hs, -⟩ := (hH.at hi).2
  refine X.arraylength hx A.1 (State.isArrayOf_alike hZ.alike A.2.1) (g := mkF m pc Ls (.ref a :: st)) rfl rfl (hb hby hd) _ ?_
  have e1 : cl.slots.size.toInt32 = n := by rw [hs]; simpa using hn
  rw [e1]; exact h
theorem wp_iastore {i : Nat} {a : Addr} {xs : List Int32} {n x : Int32} (m : Nat) (hd : Dc bytes pc .iastore 1 pc') (hi : H[i]? = some (a, oA .int xs)) (hn : ¬ n < 0) (hm : n.toNatClampNeg = m) (hin : m < xs.length) (hr : Wp b l Z own nm bytes maxL ret R (H.set i (a, oA .int (xs.set m x))) k j pc' Ls st Q) : Wp b l Z own nm bytes maxL ret R H k j pc Ls (.int x :: .int n :: .ref a :: st) Q := by
  obtain ⟨hd, rfl⟩ := hd
  refine Wp.stepH fun p e s mm args below meth c T L hx hZ hby hml hown hnm hret X N hH => ?_
  subst hm
  obtain ⟨Eq, cl, A, hs, G⟩ := (hH.at hi).2
  obtain ⟨h1, -⟩ := in_of hs hn (v := .int xs[n.toNatClampNeg]) (by simp [hin])
  obtain ⟨T', h', X', e', W', stp⟩ := stI X hx hZ rfl A h1 (g := mkF mm pc Ls (.int x :: .int n :: .ref a :: st)) rfl rfl (hb hby hd)
  subst e'
  exact ⟨T', _, k, j, _, _, Ls, st, X', by rw [W'.size]; exact Nat.le_refl _, Fr.snoc X' N ((hH.at hi).1 rfl), hH.set hi W' (o' := .inr (.inl (_, xs.set n.toNatClampNeg _))) ⟨Eq.wr W', _, A.same W', by rw [setSlot_list hs, List.map_set], fun y hy => (List.mem_or_eq_of_mem_set hy).elim (G y) fun q => by rw [q]; exact rfl⟩, hr, stp⟩
theorem wp_castore {i : Nat} {a : Addr} {xs : List Int32} {n x : Int32} (m : Nat) (hd : Dc bytes pc .castore 1 pc') (hi : H[i]? = some (a, oA .char xs)) (hn : ¬ n < 0) (hm : n.toNatClampNeg = m) (hin : m < xs.length) (hr : Wp b l Z own nm bytes maxL ret R (H.set i (a, oA .char (xs.set m (nar .char x)))) k j pc' Ls st Q) : Wp b l Z own nm bytes maxL ret R H k j pc Ls (.int x :: .int n :: .ref a :: st) Q := by
  obtain ⟨hd, rfl⟩ := hd
  refine Wp.stepH fun p e s mm args below meth c T L hx hZ hby hml hown hnm hret X N hH => ?_
  subst hm
  obtain ⟨Eq, cl, A, hs, G⟩ := (hH.at hi).2
  obtain ⟨h1, -⟩ := in_of hs hn (v := .int xs[n.toNatClampNeg]) (by simp [hin])
  obtain ⟨T', h', X', e', W', stp⟩ := stC X hx hZ rfl A h1 (g := mkF mm pc Ls (.int x :: .int n :: .ref a :: st)) rfl rfl (hb hby hd)
  subst e'
  exact ⟨T', _, k, j, _, _, Ls, st, X', by rw [W'.size]; exact Nat.le_refl _, Fr.snoc X' N ((hH.at hi).1 rfl), hH.set hi W' (o' := .inr (.inl (_, xs.set n.toNatClampNeg _))) ⟨Eq.wr W', _, A.same W', by rw [setSlot_list hs, List.map_set], fun y hy => (List.mem_or_eq_of_mem_set hy).elim (G y) fun q => by rw [q]; exact fits_nar_char x⟩, hr, stp⟩
theorem wp_sastore {i : Nat} {a : Addr} {xs : List Int32} {n x : Int32} (m : Nat) (hd : Dc bytes pc .sastore 1 pc') (hi : H[i]? = some (a, oA .short xs)) (hn : ¬ n < 0) (hm : n.toNatClampNeg = m) (hin : m < xs.length) (hr : Wp b l Z own nm bytes maxL ret R (H.set i (a, oA .short (xs.set m (nar .short x)))) k j pc' Ls st Q) : Wp b l Z own nm bytes maxL ret R H k j pc Ls (.int x :: .int n :: .ref a :: st) Q := by
  obtain ⟨hd, rfl⟩ := hd
  refine Wp.stepH fun p e s mm args below meth c T L hx hZ hby hml hown hnm hret X N hH => ?_
  subst hm
  obtain ⟨Eq, cl, A, hs, G⟩ := (hH.at hi).2
  obtain ⟨h1, -⟩ := in_of hs hn (v := .int xs[n.toNatClampNeg]) (by simp [hin])
  obtain ⟨T', h', X', e', W', stp⟩ := stS X hx hZ rfl A h1 (g := mkF mm pc Ls (.int x :: .int n :: .ref a :: st)) rfl rfl (hb hby hd)
  subst e'
  exact ⟨T', _, k, j, _, _, Ls, st, X', by rw [W'.size]; exact Nat.le_refl _, Fr.snoc X' N ((hH.at hi).1 rfl), hH.set hi W' (o' := .inr (.inl (_, xs.set n.toNatClampNeg _))) ⟨Eq.wr W', _, A.same W', by rw [setSlot_list hs, List.map_set], fun y hy => (List.mem_or_eq_of_mem_set hy).elim (G y) fun q => by rw [q]; exact fits_nar_short x⟩, hr, stp⟩
theorem wp_bastore {i : Nat} {a : Addr} {xs : List Int32} {n x : Int32} (m : Nat) (hd : Dc bytes pc .bastore 1 pc') (hi : H[i]? = some (a, oA .byte xs)) (hn : ¬ n < 0) (hm : n.toNatClampNeg = m) (hin : m < xs.length) (hr : Wp b l Z own nm bytes maxL ret R (H.set i (a, oA .byte (xs.set m (nar .byte x)))) k j pc' Ls st Q) : Wp b l Z own nm bytes maxL ret R H k j pc Ls (.int x :: .int n :: .ref a :: st) Q := by
  obtain ⟨hd, rfl⟩ := hd
  refine Wp.stepH fun p e s mm args below meth c T L hx hZ hby hml hown hnm hret X N hH => ?_
  subst hm
  obtain ⟨Eq, cl, A, hs, G⟩ := (hH.at hi).2
  obtain ⟨h1, -⟩ := in_of hs hn (v := .int xs[n.toNatClampNeg]) (by simp [hin])
  obtain ⟨T', h', X', e', W', stp⟩ := stB X hx hZ rfl A h1 (g := mkF mm pc Ls (.int x :: .int n :: .ref a :: st)) rfl rfl (hb hby hd)
  subst e'
  exact ⟨T', _, k, j, _, _, Ls, st, X', by rw [W'.size]; exact Nat.le_refl _, Fr.snoc X' N ((hH.at hi).1 rfl), hH.set hi W' (o' := .inr (.inl (_, xs.set n.toNatClampNeg _))) ⟨Eq.wr W', _, A.same W', by rw [setSlot_list hs, List.map_set], fun y hy => (List.mem_or_eq_of_mem_set hy).elim (G y) fun q => by rw [q]; exact fits_nar_byte x⟩, hr, stp⟩
theorem wp_zastore {i : Nat} {a : Addr} {xs : List Int32} {n x : Int32} (m : Nat) (hd : Dc bytes pc .bastore 1 pc') (hi : H[i]? = some (a, oA .boolean xs)) (hn : ¬ n < 0) (hm : n.toNatClampNeg = m) (hin : m < xs.length) (hr : Wp b l Z own nm bytes maxL ret R (H.set i (a, oA .boolean (xs.set m (nar .boolean x)))) k j pc' Ls st Q) : Wp b l Z own nm bytes maxL ret R H k j pc Ls (.int x :: .int n :: .ref a :: st) Q := by
  obtain ⟨hd, rfl⟩ := hd
  refine Wp.stepH fun p e s mm args below meth c T L hx hZ hby hml hown hnm hret X N hH => ?_
  subst hm
  obtain ⟨Eq, cl, A, hs, G⟩ := (hH.at hi).2
  obtain ⟨h1, -⟩ := in_of hs hn (v := .int xs[n.toNatClampNeg]) (by simp [hin])
  obtain ⟨T', h', X', e', W', stp⟩ := stZ X hx hZ rfl A h1 (g := mkF mm pc Ls (.int x :: .int n :: .ref a :: st)) rfl rfl (hb hby hd)
  subst e'
  exact ⟨T', _, k, j, _, _, Ls, st, X', by rw [W'.size]; exact Nat.le_refl _, Fr.snoc X' N ((hH.at hi).1 rfl), hH.set hi W' (o' := .inr (.inl (_, xs.set n.toNatClampNeg _))) ⟨Eq.wr W', _, A.same W', by rw [setSlot_list hs, List.map_set], fun y hy => (List.mem_or_eq_of_mem_set hy).elim (G y) fun q => by rw [q]; exact fits_nar_bool x⟩, hr, stp⟩
theorem wp_lastore {i : Nat} {a : Addr} {xs : List Int64} {n : Int32} {x : Int64} (m : Nat) (hd : Dc bytes pc .lastore 1 pc') (hi : H[i]? = some (a, oJ xs)) (hn : ¬ n < 0) (hm : n.toNatClampNeg = m) (hin : m < xs.length) (hr : Wp b l Z own nm bytes maxL ret R (H.set i (a, oJ (xs.set m x))) k j pc' Ls st Q) : Wp b l Z own nm bytes maxL ret R H k j pc Ls (.long x :: .int n :: .ref a :: st) Q := by
  obtain ⟨hd, rfl⟩ := hd
  refine Wp.stepH fun p e s mm args below meth c T L hx hZ hby hml hown hnm hret X N hH => ?_
  subst hm
  obtain ⟨Eq, cl, A, hs⟩ := (hH.at hi).2
  obtain ⟨h1, -⟩ := in_of hs hn (v := .long xs[n.toNatClampNeg]) (by simp [hin])
  obtain ⟨T', h', X', e', W', stp⟩ := stJ X hx hZ rfl A h1 (g := mkF mm pc Ls (.long x :: .int n :: .ref a :: st)) rfl rfl (hb hby hd)
  subst e'
  exact ⟨T', _, k, j, _, _, Ls, st, X', by rw [W'.size]; exact Nat.le_refl _, Fr.snoc X' N ((hH.at hi).1 rfl), hH.set hi W' (o' := .inr (.inr (.inl (xs.set n.toNatClampNeg x)))) ⟨Eq.wr W', _, A.same W', by rw [setSlot_list hs, List.map_set]⟩, hr, stp⟩
/-- a body's contract: handed these arguments among these new objects it returns and Q holds -/
def Met (l : Launch) (Z : State) (y : MethodName) (bytes : ByteArray) (maxL : Nat) (ret : Option FieldType) (rm : Room) (as' : List Value) (H : OH) (Q : Option Value → OH → Prop) : Prop :=
  ∀ (ws : List Jvm.Cond) (h : Heap), Hp Z h H → MetFree l y (head1 (Jvm.Cond.code y bytes maxL ret :: ws) rm) (fun a U => a = as'.toArray ∧ Z.Warmed39 U.vm ∧ U.heap = h) (fun _ _ _ _ _ => True)
    (fun _ U o U' => ∃ v L, o = .returned v ∧ (Fr Z.heap.size L ∧ h.size ≤ U'.heap.size ∧ ∃ H', Hp Z U'.heap H' ∧ Q v H') ∧ FrameEnd U o U' L rm.cells rm.slots)
theorem Met.of_wp {y : MethodName} {rm : Room} {as' : List Value} (hx : plainFor y = true) (hef : ∀ m, entryFrame m as'.toArray maxL = mkF m 0 Ls []) (hw : Wp false l Z y.cls y.name bytes maxL ret rm H 0 0 0 Ls [] Q) : Met l Z y bytes maxL ret rm as' H Q := by
  intro ws h hH
  refine MetFree.of_bodySF hx hisR ?_
  intro p e s m args below meth c s₁ Bd hml0 hP hK
  obtain ⟨rfl, hZ, hh⟩ := hP
  have X0 : Stand p l e rm s m as'.toArray below meth c s₁ [] 0 0 := Stand.of_body Bd
  have e0 : s₁.heap = h := by rw [← hh, Bd.state]; rfl
  obtain ⟨T', v, L', k', j', vm1, k1, H', ⟨hS, hk1, hvm⟩, X', ⟨hc, hj, hsz⟩, N', hH', hv, hQ, stp⟩ := hw p e s s.vm 0 m as'.toArray below meth c s₁ [] Bd.exec hZ ((State.WarmedH.refl s).since 0) (Nat.zero_le _) Bd.bytes hml0 (findClass_of_methodNamed Bd.named) (name_of_methodNamed Bd.named Bd.method).1 Bd.returns X0 (Fr.nil _) (by rw [e0]; exact hH)
  obtain rfl := hvm rfl
  have X'' : Stand p l e rm s m as'.toArray below meth c T' L' k' j' := X'
  obtain ⟨fs, hr, hrun, hended, hW, hsame⟩ := X''.leave (v := v) (fun h => hv (Bd.returns.symm.trans h))
  refine ⟨_, _, castTop (hef m) (stp fs hr), hrun, hended, v, L', rfl, ⟨N', ?_, H', hH', hQ⟩, ⟨_, rfl⟩, hW, hsame.mono hc hj⟩
  rw [e0] at hsz; exact hsz
/-- the same for a body that may intern (a String constant loaded cold) -/
theorem MetW.of_wp {y : MethodName} {rm : Room} {as' : List Value} (hx : plainFor y = true) (hef : ∀ m, entryFrame m as'.toArray maxL = mkF m 0 Ls []) (hw : Wp true l Z y.cls y.name bytes maxL ret rm H 0 0 0 Ls [] Q) (ws : List Jvm.Cond) (h : Heap) (hH : Hp Z h H) :
    MetFree l y (head1 (Jvm.Cond.code y bytes maxL ret :: ws) rm) (fun a U => a = as'.toArray ∧ Z.Warmed39 U.vm ∧ U.heap = h) (fun _ _ _ _ _ => True)
      (fun _ U o U' => ∃ v L, o = .returned v ∧ (Fr Z.heap.size L ∧ ∃ H', Hp Z U'.heap H' ∧ Q v H') ∧ ReturnedEndW U o U' L rm.cells rm.slots) := by
  refine MetFree.of_bodySF hx hisR ?_
  intro p e s m args below meth c s₁ Bd hml0 hP hK
  obtain ⟨rfl, hZ, hh⟩ := hP
  have X0 : Stand p l e rm s m as'.toArray below meth c s₁ [] 0 0 := Stand.of_body Bd
  have e0 : s₁.heap = h := by rw [← hh, Bd.state]; rfl
  obtain ⟨T', v, L', k', j', vm1, k1, H', ⟨hS, hk1, -⟩, X', ⟨hc, hj, hsz⟩, N', hH', hv, hQ, stp⟩ := hw p e s s.vm 0 m as'.toArray below meth c s₁ [] Bd.exec hZ ((State.WarmedH.refl s).since 0) (Nat.zero_le _) Bd.bytes hml0 (findClass_of_methodNamed Bd.named) (name_of_methodNamed Bd.named Bd.method).1 Bd.returns X0 (Fr.nil _) (by rw [e0]; exact hH)
  obtain ⟨fs, hr, hrun, hended, q1, q2, q3, q4⟩ := X'.leaveW hS hk1 (v := v) (fun h => hv (Bd.returns.symm.trans h))
  exact ⟨_, _, castTop (hef m) (stp fs hr), hrun, hended, v, L', rfl, ⟨N', H', hH', hQ⟩, q1, q2, q3, q4.mono hc hj⟩
theorem Met.mono {y : MethodName} {rm : Room} {as' : List Value} {Q' : Option Value → OH → Prop} (M : Met l Z y bytes maxL ret rm as' H Q') (hq : ∀ v H', Q' v H' → Q v H') : Met l Z y bytes maxL ret rm as' H Q := fun ws h hH p e ha hc hk s m args below hf happ hP hK => by
  obtain ⟨n, o, h1, h2, h3, v, L, rfl, ⟨q1, q2, H', q3, q4⟩, h5⟩ := M ws h hH p e ha hc hk s m args below hf happ hP hK
  exact ⟨n, _, h1, h2, h3, v, L, rfl, ⟨q1, q2, H', q3, hq _ _ q4⟩, h5⟩
theorem wp_callS {y : MethodName} {bytes' : ByteArray} {maxL' : Nat} {ret' : Option FieldType} {rm : Room} {rest : List Value} {Q' : Option Value → OH → Prop} {idx : Nat} {ps : List FieldType} {rt : Option FieldType} {as' : List Value} (M : Met l Z y bytes' maxL' ret' rm as' H Q') (hd : Dc bytes pc (.invokestatic idx) 3 pc') (w1 : (Cond.methodLink own idx y).before a0 Z = true) (w2 : (Cond.static y).before a0 Z = true) (w3 : (Cond.initialized y.cls).before a0 Z = true) (w4 : (Cond.code y bytes' maxL' ret').before a0 Z = true) (hy : y.cls ≠ "java/lang/invoke/MethodHandle" ∧ y.cls ≠ "java/lang/invoke/VarHandle") (hpd : parseMethodDescriptor y.desc = some ⟨ps, rt⟩) (hlen : as'.length = ps.length) (hst : st = as'.reverse ++ rest) (hsz : Ls.size = maxL) (hf : rm.frames + 1 ≤ R.frames) (hl : (rest.map fun v => v.category).sum + (maxL' + 11) + rm.locals ≤ R.locals) (hc : k + rm.cells ≤ R.cells) (hj : j + rm.slots ≤ R.slots) (hr : ∀ v H', Q' v H' → Wp b l Z own nm bytes maxL ret R H' (k + rm.cells) (j + rm.slots) pc' Ls (v.toList ++ rest) Q) : Wp b l Z own nm bytes maxL ret R H k j pc Ls st Q := by
  obtain ⟨hd, rfl⟩ := hd
  refine Wp.stepH fun p e s m args below meth c T L hx hZ hby hml hown hnm hret X N hH => ?_
  obtain ⟨v, _, ⟨T', L', k', n'⟩, -, X', ⟨Lc, ⟨N', hsz', H', hH', hQ⟩, l1, y1, z1⟩, stp⟩ := Jvm.LawKit.callS X hx (y := y) hown (mvT hZ w1) (mvT hZ w2) (mvT hZ w3) (mvT hZ w4) hy (backOf (W := (rest.map fun v => v.category).sum) (Q := fun v h L => Fr Z.heap.size L ∧ T.heap.size ≤ h.size ∧ ∃ H', Hp Z h H' ∧ Q' v H') (M [] T.heap hH) hZ w4 w3 hf hl) (g := mkF m pc Ls st) rfl (by rw [hml]; exact hsz) (argsL := as') (rest := rest) (lenOf hpd hlen) hst (by show 2 * 0 + _ ≤ _; omega) (hb hby hd) (fun _ _ => ⟨rfl, rfl, hc, hj⟩)
  dsimp only [Pt.U, Pt.locs, Pt.cells, Pt.slots] at X' l1 y1 z1 stp hH' hsz'
  subst l1 y1 z1
  exact ⟨T', _, _, _, H', _, Ls, v.toList ++ rest, X', hsz', N.app N', hH', hr v H' hQ, stp⟩
theorem wp_init {y : MethodName} {bytes' : ByteArray} {maxL' : Nat} {rm : Room} {rest : List Value} {Q' : Option Value → OH → Prop} {idx : Nat} {ps : List FieldType} {rt : Option FieldType} {a : Addr} {as' : List Value} (M : Met l Z y bytes' maxL' none rm (.ref a :: as') H Q') (hd : Dc bytes pc (.invokespecial idx) 3 pc') (hin : y.name = "<init>") (w1 : (Cond.methodLink own idx y).before a0 Z = true) (w2 : (Cond.instanceMethod y).before a0 Z = true) (w3 : (Cond.initialized y.cls).before a0 Z = true) (w4 : (Cond.code y bytes' maxL' none).before a0 Z = true) (hy : y.cls ≠ "java/lang/invoke/MethodHandle" ∧ y.cls ≠ "java/lang/invoke/VarHandle") (hpd : parseMethodDescriptor y.desc = some ⟨ps, rt⟩) (hlen : as'.length = ps.length) (hst : st = as'.reverse ++ .ref a :: rest) (hsz : Ls.size = maxL) (hf : rm.frames + 1 ≤ R.frames) (hl : (rest.map fun v => v.category).sum + (maxL' + 11) + rm.locals ≤ R.locals) (hc : k + rm.cells ≤ R.cells) (hj : j + rm.slots ≤ R.slots) (hr : ∀ v H', Q' v H' → Wp b l Z own nm bytes maxL ret R H' (k + rm.cells) (j + rm.slots) pc' Ls (v.toList ++ rest) Q) : Wp b l Z own nm bytes maxL ret R H k j pc Ls st Q := by
  obtain ⟨hd, rfl⟩ := hd
  refine Wp.stepH fun p e s m args below meth c T L hx hZ hby hml hown hnm hret X N hH => ?_
  obtain ⟨v, _, ⟨T', L', k', n'⟩, -, X', ⟨Lc, ⟨N', hsz', H', hH', hQ⟩, l1, y1, z1⟩, stp⟩ := X.specialBack hx (y := y) hin hown (mvT hZ w1) (mvT hZ w2) (mvT hZ w4) hy (backOf (W := (rest.map fun v => v.category).sum) (Q := fun v h L => Fr Z.heap.size L ∧ T.heap.size ≤ h.size ∧ ∃ H', Hp Z h H' ∧ Q' v H') (M [] T.heap hH) hZ w4 w3 hf hl) (g := mkF m pc Ls st) rfl (by rw [hml]; exact hsz) (Steps.refl _) (a := a) (argsL := as') (rest := rest) (lenOf hpd hlen) hst (by show 2 * 0 + _ ≤ _; omega) (hb hby hd) (fun _ _ => ⟨rfl, rfl, hc, hj⟩)
  dsimp only [Pt.U, Pt.locs, Pt.cells, Pt.slots] at X' l1 y1 z1 stp hH' hsz'
  subst l1 y1 z1
  exact ⟨T', _, _, _, H', _, Ls, v.toList ++ rest, X', hsz', N.app N', hH', hr v H' hQ, fun _ q => stp.trans q⟩
theorem wp_virtual {y : MethodName} {bytes' : ByteArray} {maxL' : Nat} {ret' : Option FieldType} {rm : Room} {rest : List Value} {Q' : Option Value → OH → Prop} {idx : Nat} {ps : List FieldType} {rt : Option FieldType} {x : MethodName} {C : String} {a : Addr} {as' : List Value} (M : Met l Z y bytes' maxL' ret' rm (.ref a :: as') H Q') (E : ExaAt Z H a C) (hd : Dc bytes pc (.invokevirtual idx) 3 pc') (w1 : (Cond.methodLink own idx x).before a0 Z = true) (w2 : (Cond.declares x).before a0 Z = true) (wn : (Cond.selects x.cls x x).before a0 Z = true) (ws : (Cond.selects C x y).before a0 Z = true) (wi : (Cond.instanceMethod y).before a0 Z = true) (w3 : (Cond.initialized y.cls).before a0 Z = true) (w4 : (Cond.code y bytes' maxL' ret').before a0 Z = true) (hy : x.cls ≠ "java/lang/invoke/MethodHandle" ∧ x.cls ≠ "java/lang/invoke/VarHandle") (hpd : parseMethodDescriptor x.desc = some ⟨ps, rt⟩) (hlen : as'.length = ps.length) (hst : st = as'.reverse ++ .ref a :: rest) (hsz : Ls.size = maxL) (hf : rm.frames + 1 ≤ R.frames) (hl : (rest.map fun v => v.category).sum + (maxL' + 11) + rm.locals ≤ R.locals) (hc : k + rm.cells ≤ R.cells) (hj : j + rm.slots ≤ R.slots) (hr : ∀ v H', Q' v H' → Wp b l Z own nm bytes maxL ret R H' (k + rm.cells) (j + rm.slots) pc' Ls (v.toList ++ rest) Q) : Wp b l Z own nm bytes maxL ret R H k j pc Ls st Q := by
  obtain ⟨hd, rfl⟩ := hd
  refine Wp.stepH fun p e s m args below meth c T L hx hZ hby hml hown hnm hret X N hH => ?_
  obtain ⟨cq, kq, q1, q2, q3⟩ := isOf hZ rfl (E _ hH)
  obtain ⟨v, _, ⟨T', L', k', n'⟩, -, X', ⟨Lc, ⟨N', hsz', H', hH', hQ⟩, l1, y1, z1⟩, stp⟩ := X.virtualBack hx (y := x) (z := y) hown (mvT hZ w1) (mvT hZ w2) (notFace_of_selects (args := #[]) (mvT hZ wn)) (mvT hZ ws) (mvT hZ wi) hy (backOf (W := (rest.map fun v => v.category).sum) (Q := fun v h L => Fr Z.heap.size L ∧ T.heap.size ≤ h.size ∧ ∃ H', Hp Z h H' ∧ Q' v H') (M [] T.heap hH) hZ w4 w3 hf hl) q1 q3 (g := mkF m pc Ls st) rfl (by rw [hml]; exact hsz) (Steps.refl _) (argsL := as') (rest := rest) (lenOf hpd hlen) hst (by show 2 * 0 + _ ≤ _; omega) (hb hby hd) (fun _ _ => ⟨rfl, rfl, hc, hj⟩)
  dsimp only [Pt.U, Pt.locs, Pt.cells, Pt.slots] at X' l1 y1 z1 stp hH' hsz'
  subst l1 y1 z1
  exact ⟨T', _, _, _, H', _, Ls, v.toList ++ rest, X', hsz', N.app N', hH', hr v H' hQ, fun _ q => stp.trans q⟩
theorem xs_pop2L {tb : Tables} [Ours tb] {e : Env} {below : List Frame} {T target : State} {m : MethodId} {c : Code} {g : JFrame} (h : At T m c below) (hx : tb.exec = Jvm.exec) (hg : g.method = m) {x : Int64} {rest : List Value} (hd : decode c.code g.pc = .ok (.pop2, 1)) (hs : g.stack = .long x :: rest)
    (hr : Steps tb e below (T.setTop { g with pc := g.pc + 1, stack := rest }) target) : Steps tb e below (T.setTop g) target := by
  subst hg
  jvm_step h [h.top, hx, hd, hs, Value.category]
  exact hr
theorem xs_dup_x2 {tb : Tables} [Ours tb] {e : Env} {below : List Frame} {T target : State} {m : MethodId} {c : Code} {g : JFrame} (h : At T m c below) (hx : tb.exec = Jvm.exec) (hg : g.method = m) {x y z : Value} {rest : List Value} (hd : decode c.code g.pc = .ok (.dup_x2, 1)) (hs : g.stack = x :: y :: z :: rest) (hc1 : x.category = 1) (hc2 : y.category = 1) (hc3 : z.category = 1)
    (hr : Steps tb e below (T.setTop { g with pc := g.pc + 1, stack := x :: y :: z :: x :: rest }) target) : Steps tb e below (T.setTop g) target := by
  subst hg
  jvm_step h [h.top, hx, hd, hs, hc1, hc2, hc3]
  exact hr
theorem wp_pop2L {x : Int64} (hd : Dc bytes pc (.pop2) 1 pc')  (hr : Wp b l Z own nm bytes maxL ret R H k j pc' Ls st Q) : Wp b l Z own nm bytes maxL ret R H k j pc Ls (.long x :: st) Q := by
  obtain ⟨hd, rfl⟩ := hd
  exact Wp.step (fun p e s m args below meth c T L hx hZ hby hown X hH target ht => xs_pop2L X.here hx rfl (hb hby hd) rfl ht) hr
theorem wp_dup_x2 {x y z : Value} (hd : Dc bytes pc (.dup_x2) 1 pc') (hc1 : x.category = 1) (hc2 : y.category = 1) (hc3 : z.category = 1) (hr : Wp b l Z own nm bytes maxL ret R H k j pc' Ls (x :: y :: z :: x :: st) Q) : Wp b l Z own nm bytes maxL ret R H k j pc Ls (x :: y :: z :: st) Q := by
  obtain ⟨hd, rfl⟩ := hd
  exact Wp.step (fun p e s m args below meth c T L hx hZ hby hown X hH target ht => xs_dup_x2 X.here hx rfl (hb hby hd) rfl hc1 hc2 hc3 ht) hr
theorem wp_private {y : MethodName} {bytes' : ByteArray} {maxL' : Nat} {ret' : Option FieldType} {rm : Room} {rest : List Value} {Q' : Option Value → OH → Prop} {idx : Nat} {ps : List FieldType} {rt : Option FieldType} {a : Addr} {C : String} {kk : Nat} {as' : List Value} (M : Met l Z y bytes' maxL' ret' rm (.ref a :: as') H Q') (E : ExaAt Z H a C) (hd : Dc bytes pc (.invokevirtual idx) 3 pc') (w1 : (Cond.methodLink own idx y).before a0 Z = true) (wi : (Cond.instanceMethod y).before a0 Z = true) (wn : (Cond.instantiable y.cls kk).before a0 Z = true) (wp : (Cond.privateMethod y).before a0 Z = true) (w3 : (Cond.initialized y.cls).before a0 Z = true) (w4 : (Cond.code y bytes' maxL' ret').before a0 Z = true) (hy : y.cls ≠ "java/lang/invoke/MethodHandle" ∧ y.cls ≠ "java/lang/invoke/VarHandle") (hpd : parseMethodDescriptor y.desc = some ⟨ps, rt⟩) (hlen : as'.length = ps.length) (hst : st = as'.reverse ++ .ref a :: rest) (hsz : Ls.size = maxL) (hf : rm.frames + 1 ≤ R.frames) (hl : (rest.map fun v => v.category).sum + (maxL' + 11) + rm.locals ≤ R.locals) (hc : k + rm.cells ≤ R.cells) (hj : j + rm.slots ≤ R.slots) (hr : ∀ v H', Q' v H' → Wp b l Z own nm bytes maxL ret R H' (k + rm.cells) (j + rm.slots) pc' Ls (v.toList ++ rest) Q) : Wp b l Z own nm bytes maxL ret R H k j pc Ls st Q := by
  obtain ⟨hd, rfl⟩ := hd
  refine Wp.stepH fun p e s m args below meth c T L hx hZ hby hml hown hnm hret X N hH => ?_
  obtain ⟨cl, q1, q2⟩ := (E _ hH).cell
  obtain ⟨mk, mt, n1, n2, n3, n4⟩ := Cond.instanceMethod_spec (mvT (args := args) hZ wi)
  obtain ⟨mt', cM, n2', -, -, -, -, -, -, n5⟩ := Cond.code_spec n1 (mvT (args := args) hZ w4)
  cases n2.symm.trans n2'
  obtain ⟨c2, k2, i1, i2, -, i4, -⟩ := Cond.instantiable_spec (mvT (args := args) hZ wn)
  cases (findClass_of_methodNamed n1).symm.trans i1
  have i5 : k2.isInterface = false := by cases q : k2.isInterface with | false => rfl | true => rw [q] at i4; cases i4
  have hsel : selectMethod e.platform s.vm cl.cls mk = .method mk := selectMethod_private n2 (Cond.privateMethod_at (mvP (args := args) hZ wp) mk mt n1 n2)
  obtain ⟨vm1, X1, st1⟩ := X.invokevirtual hx hown (mvT hZ w1) n1 n2 n3 i2 i5 hy (a := a) (cell := cl) q1 q2 hsel n2 n4 i2 i5 (g := mkF m pc Ls st) rfl (argsL := as') (rest := rest) (lenOf hpd hlen _ n5) hst (hb hby hd)
  obtain ⟨v, ⟨T', L', k', n'⟩, X', ⟨Lc, ⟨N', hsz', H', hH', hQ⟩, l1, y1, z1⟩, st2⟩ := backOf (p := p) (e := e) (below := below) (args := args) (len := 3) (W := (rest.map fun v => v.category).sum) (Q := fun v h L => Fr Z.heap.size L ∧ T.heap.size ≤ h.size ∧ ∃ H', Hp Z h H' ∧ Q' v H') (M [] T.heap hH) hZ w4 w3 hf hl m meth c ⟨T.setVm vm1, L, k, j⟩ { mkF m pc Ls st with stack := rest } (.invokevirtual idx) mk (.ref a :: as').toArray X1 rfl (by show Ls.size = _; rw [hml]; exact hsz) (hb hby hd) (by show 2 * 0 + (rest.map fun v => v.category).sum ≤ _; omega) (X1.named n1) ⟨rfl, rfl, hc, hj⟩
  dsimp only [Pt.U, Pt.locs, Pt.cells, Pt.slots] at X' l1 y1 z1 st2 hH' hsz'
  subst l1 y1 z1
  exact ⟨T', _, _, _, H', _, Ls, v.toList ++ rest, X', hsz', N.app N', hH', hr v H' hQ, fun t q => st1 _ fun acts => by rw [doInvoke_state]; exact st2.trans q⟩
theorem wp_interface {y : MethodName} {bytes' : ByteArray} {maxL' : Nat} {ret' : Option FieldType} {rm : Room} {rest : List Value} {Q' : Option Value → OH → Prop} {idx : Nat} {ps : List FieldType} {rt : Option FieldType} {x : MethodName} {C : String} {cnt : Nat} {a : Addr} {as' : List Value} (M : Met l Z y bytes' maxL' ret' rm (.ref a :: as') H Q') (E : ExaAt Z H a C) (hd : Dc bytes pc (.invokeinterface idx cnt) 5 pc') (w1 : (Cond.methodLink own idx x).before a0 Z = true) (w2 : (Cond.declares x).before a0 Z = true) (wf : (Cond.interfaceMethod x.cls x.cls x.name x.desc).before a0 Z = true) (hfa : ((Cond.interfaceMethod x.cls x.cls x.name x.desc).onTables && (Cond.interfaceMethod x.cls x.cls x.name x.desc).keepsFace) = true) (ws : (Cond.selects C x y).before a0 Z = true) (wi : (Cond.instanceMethod y).before a0 Z = true) (wpu : (Cond.publicMethod y).before a0 Z = true) (wu : (Cond.unhidden C x.name x.desc).before a0 Z = true) (wc : (Cond.castable C x.cls).before a0 Z = true) (w3 : (Cond.initialized y.cls).before a0 Z = true) (w4 : (Cond.code y bytes' maxL' ret').before a0 Z = true) (hy : x.cls ≠ "java/lang/invoke/MethodHandle" ∧ x.cls ≠ "java/lang/invoke/VarHandle") (hpd : parseMethodDescriptor x.desc = some ⟨ps, rt⟩) (hlen : as'.length = ps.length) (hst : st = as'.reverse ++ .ref a :: rest) (hsz : Ls.size = maxL) (hf : rm.frames + 1 ≤ R.frames) (hl : (rest.map fun v => v.category).sum + (maxL' + 11) + rm.locals ≤ R.locals) (hc : k + rm.cells ≤ R.cells) (hj : j + rm.slots ≤ R.slots) (hr : ∀ v H', Q' v H' → Wp b l Z own nm bytes maxL ret R H' (k + rm.cells) (j + rm.slots) pc' Ls (v.toList ++ rest) Q) : Wp b l Z own nm bytes maxL ret R H k j pc Ls st Q := by
  obtain ⟨hd, rfl⟩ := hd
  refine Wp.stepH fun p e s m args below meth c T L hx hZ hby hml hown hnm hret X N hH => ?_
  obtain ⟨cq, kq, q1, q2, q3⟩ := isOf hZ rfl (E _ hH)
  obtain ⟨v, _, ⟨T', L', k', n'⟩, -, X', ⟨Lc, ⟨N', hsz', H', hH', hQ⟩, l1, y1, z1⟩, stp⟩ := X.interfaceBack hx (xi := x) (y := y) hown (mvT hZ w1) (mvT hZ w2) (mvT hZ wf hfa) (mvT hZ ws) (mvT hZ wi) (mvT hZ wpu) (mvT hZ wu) (mvT hZ wc) hy (backOf (len := 5) (W := (rest.map fun v => v.category).sum) (Q := fun v h L => Fr Z.heap.size L ∧ T.heap.size ≤ h.size ∧ ∃ H', Hp Z h H' ∧ Q' v H') (M [] T.heap hH) hZ w4 w3 hf hl) q1 q2 q3 (g := mkF m pc Ls st) rfl (by rw [hml]; exact hsz) (Steps.refl _) (argsL := as') (rest := rest) (lenOf hpd hlen) hst (by show 2 * 0 + _ ≤ _; omega) (hb hby hd) (fun _ _ => ⟨rfl, rfl, hc, hj⟩)
  dsimp only [Pt.U, Pt.locs, Pt.cells, Pt.slots] at X' l1 y1 z1 stp hH' hsz'
  subst l1 y1 z1
  exact ⟨T', _, _, _, H', _, Ls, v.toList ++ rest, X', hsz', N.app N', hH', hr v H' hQ, fun _ q => stp.trans q⟩
theorem wp_ldcS {text : String} {idx n : Nat} (hd : Dc bytes pc (.ldc idx) 2 pc') (hbt : b = true) (w : (Cond.stringLink own idx text).before a0 Z = true) (wS : ∀ a ∈ Bundle.stringAtoms, a.before a0 Z = true) (hn : 4 * text.toList.length ≤ n) (hbig : n ≤ 536870912) (hc : k + 2 ≤ R.cells) (hl : j + (n + 4) ≤ R.slots) (hr : ∀ a, Wp b l Z own nm bytes maxL ret R H (k + 2) (j + (n + 4)) pc' Ls (.ref a :: st) Q) : Wp b l Z own nm bytes maxL ret R H k j pc Ls st Q := by
  obtain ⟨hd, rfl⟩ := hd
  intro p e s vm0 k0 m args below meth c T L hx hZ hS hk hby hml hown hnm hret X N hH
  obtain ⟨a, T', h', k1, X', e', E', hS', hk1, hZ', hown', stp⟩ := ldcS X hx hZ hown w wS rfl hS hk (g := mkF m pc Ls st) rfl (hb hby hd) hn hbig hc hl
  subst e'
  obtain ⟨T2, v, L2, k2, j2, vm1, k3, H2, ⟨r0, r1, r2⟩, r3, ⟨r4, r5, r6⟩, r7, r8, r9, r10, r11⟩ := hr a p e s T'.vm k1 m args below meth c T' L hx hZ' hS' hk1 hby hml hown' hnm hret X' N (hH.ext E')
  exact ⟨T2, v, L2, k2, j2, vm1, k3, H2, ⟨r0, r1, fun q => by rw [hbt] at q; cases q⟩, r3, ⟨r4, r5, Nat.le_trans E'.1 r6⟩, r7, r8, r9, r10, fun fs hl => stp _ (r11 fs hl)⟩
theorem wp_cast {a : Addr} {K : String} {idx : Nat} (hd : Dc bytes pc (.checkcast idx) 3 pc') (w : (Cond.classLink own idx K).before a0 Z = true) (F : ∀ h, Hp Z h H → Ins Z h a K true) (hr : Wp b l Z own nm bytes maxL ret R H k j pc' Ls (.ref a :: st) Q) : Wp b l Z own nm bytes maxL ret R H k j pc Ls (.ref a :: st) Q := by
  obtain ⟨hd, rfl⟩ := hd
  refine Wp.stepH fun p e s m args below meth c T L hx hZ hby hml hown hnm hret X N hH => ?_
  obtain ⟨T', X', e', stp⟩ := castY X hx hZ hown w rfl (F _ hH) (g := mkF m pc Ls (.ref a :: st)) rfl rfl (hb hby hd)
  exact ⟨T', L, k, j, H, _, Ls, .ref a :: st, X', by rw [e']; exact Nat.le_refl _, N, by rw [e']; exact hH, hr, stp⟩
theorem wp_instY {a : Addr} {K : String} {idx : Nat} (hd : Dc bytes pc (.instanceof idx) 3 pc') (w : (Cond.classLink own idx K).before a0 Z = true) (F : ∀ h, Hp Z h H → Ins Z h a K true) (hr : Wp b l Z own nm bytes maxL ret R H k j pc' Ls (.int 1 :: st) Q) : Wp b l Z own nm bytes maxL ret R H k j pc Ls (.ref a :: st) Q := by
  obtain ⟨hd, rfl⟩ := hd
  refine Wp.stepH fun p e s m args below meth c T L hx hZ hby hml hown hnm hret X N hH => ?_
  obtain ⟨T', X', e', stp⟩ := instY X hx hZ hown w rfl (F _ hH) (g := mkF m pc Ls (.ref a :: st)) rfl rfl (hb hby hd)
  exact ⟨T', L, k, j, H, _, Ls, .int 1 :: st, X', by rw [e']; exact Nat.le_refl _, N, by rw [e']; exact hH, hr, stp⟩
theorem wp_instN {a : Addr} {C K : String} {idx : Nat} (hd : Dc bytes pc (.instanceof idx) 3 pc') (w : (Cond.classLink own idx K).before a0 Z = true) (E : ExaAt Z H a C) (F : ∃ c t, Z.vm.findClass C = some c ∧ Z.vm.findClass K = some t ∧ Z.vm.assignable c t = false) (hr : Wp b l Z own nm bytes maxL ret R H k j pc' Ls (.int 0 :: st) Q) : Wp b l Z own nm bytes maxL ret R H k j pc Ls (.ref a :: st) Q := by
  obtain ⟨hd, rfl⟩ := hd
  refine Wp.stepH fun p e s m args below meth c T L hx hZ hby hml hown hnm hret X N hH => ?_
  obtain ⟨T', X', e', stp⟩ := instNo X hx hZ hown w rfl (E _ hH) F (g := mkF m pc Ls (.ref a :: st)) rfl rfl (hb hby hd)
  exact ⟨T', L, k, j, H, _, Ls, .int 0 :: st, X', by rw [e']; exact Nat.le_refl _, N, by rw [e']; exact hH, hr, stp⟩
theorem wp_anewarray {C : String} {idx : Nat} {n : Int32} (cnt cap : Nat) (hd : Dc bytes pc (.anewarray idx) 3 pc') (w1 : (Cond.classLink own idx C).before a0 Z = true) (w2 : (Cond.arrayOver (.object C)).before a0 Z = true) (hn : ¬ n < 0) (hcnt : n.toNatClampNeg = cnt) (hcap : cnt ≤ cap) (hb8 : cap * 8 ≤ 536870912) (hc : k + 1 ≤ R.cells) (hl : j + cap ≤ R.slots) (hr : ∀ a, Wp b l Z own nm bytes maxL ret R ((a, oR C (.object C) (List.replicate cnt .null)) :: H) (k + 1) (j + cap) pc' Ls (.ref a :: st) Q) : Wp b l Z own nm bytes maxL ret R H k j pc Ls (.int n :: st) Q := by
  obtain ⟨hd, rfl⟩ := hd
  refine Wp.stepH fun p e s m args below meth c T L hx hZ hby hml hown hnm hret X N hH => ?_
  obtain ⟨T', h', cA, X', e', E', A', B', O', stp⟩ := newRE X hx hZ hown w1 w2 rfl (g := mkF m pc Ls (.int n :: st)) rfl (hb hby hd) rfl hn (cap := cap) (by rw [hcnt]; exact hcap) hb8 hc hl rfl
  subst e'
  refine ⟨T', L, _, _, _, _, Ls, _, X', E'.1, N, hH.cons E' (o := .inr (.inr (.inr (_, _, List.replicate cnt .null)))) ⟨B', _, A', O', ?_, fun v hv => ?_⟩, hr _, stp⟩
  · simp [newA, hcnt, defaultValue]
  · rw [(List.mem_replicate.mp hv).2]; rfl
theorem Sto.ofT {h : Heap} {a y : Addr} {cl : Cell} {ty ty' : FieldType} {C : String} (A : Arr Z h a cl ty') (O : OvrT Z cl.cls C ty) (I : Ins Z h y C true) : Sto Z h a (.ref y) := by
  obtain ⟨k, comp, o1, o2, o3⟩ := O
  obtain ⟨cv, cT, i1, i2, i3⟩ := I
  cases o3.symm.trans i2
  simp only [Bool.and_eq_true, Bool.not_eq_true'] at i3
  obtain ⟨kc, q⟩ := Vm.classAt_of_findClass o3
  obtain ⟨kv, q2⟩ := Vm.classAt_of_assignable i3.2 ⟨kc, q⟩
  exact Or.inr ⟨cl, cv, k, kv, kc, _, _, y, A.1, o1, o2, q, rfl, i1, i3.1, q2, i3.2⟩
theorem wp_aastore {i : Nat} {a : Addr} {C : String} {ty : FieldType} {xs : List Value} {n : Int32} {x : Value} (m : Nat) (hd : Dc bytes pc .aastore 1 pc') (hi : H[i]? = some (a, oR C ty xs)) (hty : ty.isReference = true) (hn : ¬ n < 0) (hm : n.toNatClampNeg = m) (hin : m < xs.length) (F : x = .null ∨ ∃ y, x = .ref y ∧ ∀ h, Hp Z h H → Ins Z h y C true) (hr : Wp b l Z own nm bytes maxL ret R (H.set i (a, oR C ty (xs.set m x))) k j pc' Ls st Q) : Wp b l Z own nm bytes maxL ret R H k j pc Ls (x :: .int n :: .ref a :: st) Q := by
  obtain ⟨hd, rfl⟩ := hd
  refine Wp.stepH fun p e s mm args below meth c T L hx hZ hby hml hown hnm hret X N hH => ?_
  subst hm
  obtain ⟨Eq, cl, A, O, hs, G⟩ := (hH.at hi).2
  obtain ⟨h1, -⟩ := in_of hs hn (v := xs[n.toNatClampNeg]) (by simp [hin])
  have S : Sto Z T.heap a x := by
    rcases F with rfl | ⟨y, rfl, F⟩
    · exact Or.inl rfl
    · exact Sto.ofT A O (F _ hH)
  obtain ⟨T', h', X', e', W', stp⟩ := stR X hx hZ rfl A h1 hty S (g := mkF mm pc Ls (x :: .int n :: .ref a :: st)) rfl rfl (hb hby hd)
  subst e'
  exact ⟨T', _, k, j, _, _, Ls, st, X', by rw [W'.size]; exact Nat.le_refl _, Fr.snoc X' N ((hH.at hi).1 rfl), hH.set hi W' (o' := .inr (.inr (.inr (C, ty, xs.set n.toNatClampNeg x)))) ⟨Eq.wr W', _, A.same W', O, setSlot_list hs, fun y hy => (List.mem_or_eq_of_mem_set hy).elim (G y) fun q => by rw [q]; rcases F with rfl | ⟨y, rfl, F⟩ <;> rfl⟩, hr, stp⟩
theorem sta_of {args : Array Value} {s : State} {C n d K : String} (h : (Cond.exactly (Term.static C n d) K).value args s none s [] = some true) (wi : (Cond.initialized C).before args s = true) (wl : (Cond.laysStatic C n d).before args s = true) : ∃ a, Sta s s.heap C n d (.ref a) ∧ Exa s s.heap a K ∧ (Term.static C n d).eval args s none [] s = some (.ref a) := by
  obtain ⟨a, e⟩ := exa_v h
  exact ⟨a, Sta.start e (Or.inr ⟨wi, wl⟩), Exa.start e h, e⟩
theorem fld_of {args : Array Value} {s : State} {t : Term} {a : Addr} {C n d : String} {v : Int32} (e : t.eval args s none [] s = some (.ref a)) (h : (Cond.eq (Term.field t C n d) (Term.int v)).value args s none s [] = some true) : Fld s s.heap a C n d (.int v) :=
  Fld.start ((fld_at e).symm.trans (Cond.eq_int (Cond.before_iff.mpr h) rfl))
theorem Sat.keep {h h' : Heap} {b : Addr} {ws : List Addr} (K : Keep h h' ws) (q : b ∉ ws) : ∀ {o : ObjB}, Sat Z h b o → Sat Z h' b o
  | .inl (C, sg, vs), ⟨h1, h2, h3⟩ => ⟨h1.keep K, h2, fun i f v r t => (h3 i f v r t).keep K q⟩
  | .inr (.inl (ty, xs)), ⟨r, c, h1, h2⟩ => ⟨r.keep K, c, ⟨K.2.1 _ _ h1.1 q, h1.2⟩, h2⟩
  | .inr (.inr (.inl xs)), ⟨r, c, h1, h2⟩ => ⟨r.keep K, c, ⟨K.2.1 _ _ h1.1 q, h1.2⟩, h2⟩
  | .inr (.inr (.inr (C, ty, vs))), ⟨r, c, h1, h2⟩ => ⟨r.keep K, c, ⟨K.2.1 _ _ h1.1 q, h1.2⟩, h2⟩
theorem Hp.setK {h h' : Heap} (P : Hp Z h H) {i : Nat} {a : Addr} {o o' : ObjB} (q : H[i]? = some (a, (true, o))) (K : Keep h h' [a]) (S : Sat Z h' a o') : Hp Z h' (H.set i (a, (true, o'))) := by
  have g : Z.heap.size ≤ a := (P.at q).1 rfl
  obtain ⟨hi, hq⟩ := List.getElem?_eq_some_iff.mp q
  refine ⟨⟨Nat.le_trans P.1.1 K.1, fun b c r => ?_⟩, fun x hx => ?_, ?_⟩
  · have : b < Z.heap.size := (Array.getElem?_eq_some_iff.mp r).1
    exact K.2.1 _ _ (P.1.2 b c r) (ninS (by rintro rfl; exact absurd this (Nat.not_lt.mpr g)) nin0)
  · obtain ⟨n, hn⟩ := List.getElem?_of_mem hx
    rw [List.getElem?_set] at hn
    split at hn
    · have e0 : (a, (true, o')) = x := by simpa [hi] using hn
      subst e0; exact ⟨fun _ => g, S⟩
    · rename_i ne
      exact ⟨(P.at hn).1, (P.at hn).2.keep K (ninS (P.ne hn q (Ne.symm ne)) nin0)⟩
  · have e : (H.set i (a, (true, o'))).map Prod.fst = H.map Prod.fst := by
      rw [List.map_set]
      refine List.ext_getElem? fun n => ?_
      rw [List.getElem?_set]
      split
      · rename_i e; subst e
        simp [hi, hq]
      · rfl
    have h1 : (H.map Prod.fst).Pairwise (· ≠ ·) := List.pairwise_map.mpr P.2.2
    rw [← e] at h1
    exact List.pairwise_map.mp h1
theorem nat_i32 {n : Nat} (h : n < 2 ^ 31) : (Int32.ofNat n).toNatClampNeg = n ∧ ¬ Int32.ofNat n < 0 := by
  have e : (Int32.ofNat n).toInt = n := Int32.toInt_ofNat_of_lt h
  refine ⟨by simp only [Int32.toNatClampNeg, e]; omega, ?_⟩
  rw [Int32.lt_iff_toInt_lt, e]; simp only [Int32.reduceToInt]; omega
theorem Sat.arv {h : Heap} {a : Addr} {ty : FieldType} {xs : List Int32} (S : Sat Z h a (.inr (.inl (ty, xs)))) (hl : xs.length < 2 ^ 31) : ∃ kc, Arv Z h a kc ty (Int32.ofNat xs.length) (xs.map Value.int) (.int 0) := by
  obtain ⟨-, c, A, hs, G⟩ := S
  refine ⟨c.cls, c, A, rfl, by rw [hs, (nat_i32 hl).1]; simp, (nat_i32 hl).2, fun i hi => ?_, fun i hi => ?_⟩
  · rw [hs] at hi ⊢; simp at hi; simp [hi]
  · rw [hs] at hi; simp at hi; simp [hi, G _ (List.getElem_mem hi)]
theorem Arv.sat {h : Heap} {a : Addr} {kc : ClassId} {ty : FieldType} {xs : List Int32} (V : Arv Z h a kc ty (Int32.ofNat xs.length) (xs.map Value.int) (.int 0)) (hl : xs.length < 2 ^ 31) (Eq : Exa Z h a ("[" ++ ty.toString)) : Sat Z h a (.inr (.inl (ty, xs))) := by
  obtain ⟨c, A, -, S, -, Hs, G⟩ := V
  rw [(nat_i32 hl).1] at S
  refine ⟨Eq, c, A, ?_, fun x hx => ?_⟩
  · refine Array.ext_getElem? fun i => ?_
    by_cases hi : i < c.slots.size
    · rw [Hs i hi]; rw [S] at hi; simp [hi]
    · rw [Array.getElem?_eq_none (Nat.le_of_not_lt hi)]; rw [S] at hi; symm; simp; omega
  · obtain ⟨i, hi, rfl⟩ := List.getElem_of_mem hx
    have := G i (by rw [S]; exact hi)
    simpa [hi] using this
theorem wp_arraycopyI {i i' : Nat} {a c' : Addr} {fl : Bool} {ty : FieldType} {xs ys : List Int32} {sp dp nn : Int32} {idx : Nat} (m1 m2 m3 : Nat) (hd : Dc bytes pc (.invokestatic idx) 3 pc') (w1 : (Cond.methodLink own idx Jvm.Stand.acN).before a0 Z = true) (w2 : (Cond.native Jvm.Stand.acN).before a0 Z = true) (w3 : (Cond.static Jvm.Stand.acN).before a0 Z = true) (w4 : (Cond.initialized "java/lang/System").before a0 Z = true) (hi : H[i]? = some (a, (fl, .inr (.inl (ty, xs))))) (hi' : H[i']? = some (c', oA ty ys)) (hp : refKind ty = false) (h1 : ¬ sp < 0) (h2 : ¬ dp < 0) (h3 : ¬ nn < 0) (e1 : sp.toNatClampNeg = m1) (e2 : dp.toNatClampNeg = m2) (e3 : nn.toNatClampNeg = m3) (h4 : m1 + m3 ≤ xs.length) (h5 : m2 + m3 ≤ ys.length) (hx31 : xs.length < 2 ^ 31) (hy31 : ys.length < 2 ^ 31) (hsz : Ls.size = maxL) (hf : 1 ≤ R.frames) (hl : (st.map fun v => v.category).sum + (nativeFrameWords "java/lang/System" "arraycopy" 5 + 11) ≤ R.locals) (hr : Wp b l Z own nm bytes maxL ret R (H.set i' (c', oA ty (ys.take m2 ++ (xs.drop m1).take m3 ++ ys.drop (m2 + m3)))) k j pc' Ls st Q) : Wp b l Z own nm bytes maxL ret R H k j pc Ls (.int nn :: .int dp :: .ref c' :: .int sp :: .ref a :: st) Q := by
  obtain ⟨hd, rfl⟩ := hd
  subst e1 e2 e3
  refine Wp.stepH fun p e s m args below meth c T L hx hZ hby hml hown hnm hret X N hH => ?_
  obtain ⟨kc, V1⟩ := (hH.at hi).2.arv hx31
  obtain ⟨kd, V2⟩ := (hH.at hi').2.arv hy31
  obtain ⟨T', h', L', X', e', N', K', V', stp⟩ := cpA X hx hZ hown w1 w2 w3 w4 rfl V1 V2 (Or.inl ⟨rfl, hp⟩) h1 h2 h3 (by rw [(nat_i32 hx31).1]; exact h4) (by rw [(nat_i32 hy31).1]; exact h5) (us := ((xs.drop sp.toNatClampNeg).take nn.toNatClampNeg).map Value.int) (by
    refine List.ext_getElem? fun n => ?_
    simp only [List.getElem?_map, List.getElem?_range]
    by_cases hn : n < nn.toNatClampNeg
    · simp [hn, show sp.toNatClampNeg + n < xs.length by omega]
    · simp [hn]; omega) (by simpa using h5) N ((hH.at hi').1 rfl) (g := mkF m pc Ls (.int nn :: .int dp :: .ref c' :: .int sp :: .ref a :: st)) rfl (by rw [hml]; exact hsz) rfl (hb hby hd) hf (W := (st.map fun v => v.category).sum) (by show 2 * 0 + _ ≤ _; omega) hl
  subst e'
  have hlen : (ys.take dp.toNatClampNeg ++ (xs.drop sp.toNatClampNeg).take nn.toNatClampNeg ++ ys.drop (dp.toNatClampNeg + nn.toNatClampNeg)).length = ys.length := by
    simp only [List.length_append, List.length_take, List.length_drop]; omega
  refine ⟨T', L', k, j, _, _, Ls, st, X', K'.1, N', hH.setK hi' K' (Arv.sat (kc := kd) ?_ (by rw [hlen]; exact hy31) ((hH.at hi').2.1.keep K')), hr, stp⟩
  rw [hlen]
  simpa [List.map_append, List.map_take, List.map_drop] using V'
theorem wp_anewarrayA {C : String} {ty : FieldType} {idx : Nat} {n : Int32} (cnt cap : Nat) (hd : Dc bytes pc (.anewarray idx) 3 pc') (hC : (FieldType.array ty).toString = C) (w1 : (Cond.classLink own idx C).before a0 Z = true) (w2 : (Cond.arrayOver (.array ty)).before a0 Z = true) (hn : ¬ n < 0) (hcnt : n.toNatClampNeg = cnt) (hcap : cnt ≤ cap) (hb8 : cap * 8 ≤ 536870912) (hc : k + 1 ≤ R.cells) (hl : j + cap ≤ R.slots) (hr : ∀ a, Wp b l Z own nm bytes maxL ret R ((a, oR C (.array ty) (List.replicate cnt .null)) :: H) (k + 1) (j + cap) pc' Ls (.ref a :: st) Q) : Wp b l Z own nm bytes maxL ret R H k j pc Ls (.int n :: st) Q := by
  obtain ⟨hd, rfl⟩ := hd
  refine Wp.stepH fun p e s m args below meth c T L hx hZ hby hml hown hnm hret X N hH => ?_
  obtain ⟨T', h', cA, X', e', E', A', B', O', stp⟩ := newRA X hx hZ hown hC w1 w2 rfl (g := mkF m pc Ls (.int n :: st)) rfl (hb hby hd) rfl hn (cap := cap) (by rw [hcnt]; exact hcap) hb8 hc hl rfl
  subst e'
  refine ⟨T', L, _, _, _, _, Ls, _, X', E'.1, N, hH.cons E' (o := .inr (.inr (.inr (C, .array ty, List.replicate cnt .null)))) ⟨by rw [hC]; exact B', _, A', O', ?_, fun v hv => ?_⟩, hr _, stp⟩
  · simp [newA, hcnt, defaultValue]
  · rw [(List.mem_replicate.mp hv).2]; rfl
theorem ins_arr {i : Nat} {a : Addr} {fl : Bool} {ty : FieldType} {xs : List Int32} {K : String} (hi : H[i]? = some (a, (fl, .inr (.inl (ty, xs))))) (wc : (Cond.castable ("[" ++ ty.toString) K).before a0 Z = true) : ∀ h, Hp Z h H → Ins Z h a K true := fun h P => Ins.of_exa (P.at hi).2.1 wc
theorem ins_new {i : Nat} {a : Addr} {fl : Bool} {C K : String} {sg : OSig} {vs : List Value} (hi : H[i]? = some (a, (fl, .inl (C, sg, vs)))) (wc : (Cond.castable C K).before a0 Z = true) : ∀ h, Hp Z h H → Ins Z h a K true := fun h P => Ins.of_exa (P.at hi).2.1 wc
theorem ns_root {O K : String} {kk : Nat} (w : (Cond.noSuperclass O).before a0 Z = true) (wk : (Cond.instantiable K kk).before a0 Z = true) (hn : O ≠ K) : NS Z O K := by
  obtain ⟨c, k, h1, h2, h3, -, -⟩ := Cond.noSuperclass_spec w
  obtain ⟨t, kt, g1, -⟩ := Cond.instantiable_spec wk
  have ne := ids_ne h1 g1 hn
  refine ⟨c, t, h1, g1, fun fuel => ?_⟩
  cases fuel with
  | zero => rfl
  | succ f => simp [Vm.isSubclassAux, ne, h2, h3]
theorem ns_no {C S K : String} {kk : Nat} (w : (Cond.superclass C S).before a0 Z = true) (wk : (Cond.instantiable K kk).before a0 Z = true) (n : NS Z C K) (hn : C ≠ K) : ∃ c t, Z.vm.findClass C = some c ∧ Z.vm.findClass K = some t ∧ Z.vm.assignable c t = false := by
  obtain ⟨c, t, h0, g0, n3⟩ := n
  obtain ⟨p, k, kp, h1, h2, h3, h4, h5, -, h7⟩ := Cond.superclass_spec h0 w
  obtain ⟨t', kt, g1, g2, g5, g6, -⟩ := Cond.instantiable_spec wk
  cases g0.symm.trans g1
  have g7 : kt.isInterface = false := by cases q : kt.isInterface with | false => rfl | true => rw [q] at g6; cases g6
  have ne := ids_ne h0 g0 hn
  refine ⟨c, t, h0, g0, ?_⟩
  show Z.vm.assignableAux (255 + 1) c t = false
  simp [Vm.assignableAux, ne, h2, g2, h5, g5, g7, Vm.isSubclass, n3]
theorem wp_aaload_old {a : Addr} {cl : Cell} {ty : FieldType} {n : Int32} {x : Value} (hd : Dc bytes pc .aaload 1 pc') (A : Arr Z Z.heap a cl ty) (hty : ty.isReference = true) (hin : ¬ (n < 0 ∨ cl.slots.size ≤ n.toNatClampNeg)) (hv : cl.slots[n.toNatClampNeg]? = some x) (hr : Wp b l Z own nm bytes maxL ret R H k j pc' Ls (x :: st) Q) : Wp b l Z own nm bytes maxL ret R H k j pc Ls (.int n :: .ref a :: st) Q := by
  obtain ⟨hd, rfl⟩ := hd
  refine Wp.step (fun p e s m args below meth c T L hx hZ hby hown X hH target h => ?_) hr
  exact X.aaload hx (hH.1.2 _ _ A.1) (State.isArrayOf_alike hZ.alike A.2.1) hty A.2.2 hin hv (g := mkF m pc Ls (.int n :: .ref a :: st)) rfl rfl (hb hby hd) _ h
end Own
def sg_1 : OSig := [("com/example/prim_canon/primcanon/output/HeldText", "memory", "[C"), ("com/example/prim_canon/primcanon/output/HeldText", "inFile", "J"), ("com/example/prim_canon/primcanon/output/HeldText", "inMemory", "I"), ("com/example/prim_canon/primcanon/output/HeldText", "file", "Ljava/nio/channels/FileChannel;")]
theorem laid_sg_1 (l : Launch) (Z : State) (a0 : Array Value) (hw : ∀ d ∈ tables_1, d.before a0 Z = true) : ∀ f ∈ sg_1, Laid Z a0 "com/example/prim_canon/primcanon/output/HeldText" f.1 f.2.1 f.2.2 := all_cons (Or.inl (hw _ (List.mem_of_getElem? (i := 12) rfl))) (all_cons (Or.inl (hw _ (List.mem_of_getElem? (i := 19) rfl))) (all_cons (Or.inl (hw _ (List.mem_of_getElem? (i := 21) rfl))) (all_cons (Or.inl (hw _ (List.mem_of_getElem? (i := 38) rfl))) (all_nil))))
theorem dfl_sg_1 : Dfl sg_1 [(.null), (.long (0 : Int64)), (.int (0 : Int32)), (.null)] := ⟨⟨(.array .char), by decide +kernel, rfl⟩, ⟨.long, by decide +kernel, rfl⟩, ⟨.int, by decide +kernel, rfl⟩, ⟨(.object "java/nio/channels/FileChannel"), by decide +kernel, rfl⟩, trivial⟩
theorem own_mask3 (a : Int32) : 0 ≤ (a &&& 3).toInt ∧ (a &&& 3).toInt ≤ 3 := by
  have h : (a &&& 3).toInt = a.toInt % 4 := c_mask a 3 2 (by decide) (by decide)
  omega
theorem own_pos (s : Int32) : 0 ≤ (s &&& 2147483647).toInt := by
  have h : (s &&& 2147483647).toInt = s.toInt % 2147483648 := c_mask s 2147483647 31 (by decide) (by decide)
  omega
theorem own_us8 (s : Int32) : 0 ≤ (XT.ushr s 8).toInt := by
  have h : (XT.ushr s 8).toInt = (s.toInt % 4294967296) / 256 := c_iushr s 8 8 (by decide) (by decide)
  omega
theorem own_us3 (s : Int32) : 0 ≤ (XT.ushr s 3).toInt := by
  have h : (XT.ushr s 3).toInt = (s.toInt % 4294967296) / 8 := c_iushr s 3 3 (by decide) (by decide)
  omega
theorem own_five (l : Int32) (hl : 0 ≤ l.toInt ∧ l.toInt ≤ 3) : ((5 : Int32) - l).toInt = 5 - l.toInt := by
  have h := c_isub 5 l
  have h2 := rng32 ((5 : Int32) - l)
  simp only [Int32.reduceToInt] at h
  omega
theorem own_nz (l : Int32) (hl : 0 ≤ l.toInt ∧ l.toInt ≤ 3) : (5 : Int32) - l ≠ 0 := by
  intro h
  have h1 := own_five l hl
  rw [h] at h1; simp only [Int32.reduceToInt] at h1; omega
theorem own_idx (x l : Int32) (hx : 0 ≤ x.toInt) (hl : 0 ≤ l.toInt ∧ l.toInt ≤ 3) : 0 ≤ (x % ((5 : Int32) - l)).toInt ∧ (x % ((5 : Int32) - l)).toInt + l.toInt ≤ 4 := by
  have h1 := own_five l hl
  have h2 := (c_iremV x ((5 : Int32) - l)).1 hx (by omega)
  omega
theorem own_sum (q n : Int32) (h1 : 0 ≤ q.toInt) (h2 : q.toInt + n.toInt ≤ 256) (h3 : 0 ≤ n.toInt) : (q + n).toInt = q.toInt + n.toInt := by
  have h := c_iadd q n
  have := rng32 (q + n)
  omega
theorem pd_1 : parseMethodDescriptor "(Ljava/lang/Object;ILjava/lang/Object;II)V" = some ⟨[(.object "java/lang/Object"), .int, (.object "java/lang/Object"), .int, .int], none⟩ := by decide +kernel
theorem pn_1 : plainFor (⟨"com/example/prim_canon/primcanon/output/HeldText", "<init>", "()V"⟩ : MethodName) = true := by first | exact plainFor_of_name (by first | (simp [plainName, overriddenIn]; done) | decide +kernel) | decide +kernel
theorem D_prog_23_m1_0 : Dc prog_23_method_1_code 0 (.aload_n 0) 1 1 := ⟨by decide +kernel, rfl⟩
theorem D_prog_23_m1_1 : Dc prog_23_method_1_code 1 (.invokespecial 1) 3 4 := ⟨by decide +kernel, rfl⟩
theorem D_prog_23_m1_4 : Dc prog_23_method_1_code 4 (.aload_n 0) 1 5 := ⟨by decide +kernel, rfl⟩
theorem D_prog_23_m1_5 : Dc prog_23_method_1_code 5 (.sipush 256) 3 8 := ⟨by decide +kernel, rfl⟩
theorem D_prog_23_m1_8 : Dc prog_23_method_1_code 8 (.newarray .char) 2 10 := ⟨by decide +kernel, rfl⟩
theorem D_prog_23_m1_10 : Dc prog_23_method_1_code 10 (.putfield 9) 3 13 := ⟨by decide +kernel, rfl⟩
theorem D_prog_23_m1_13 : Dc prog_23_method_1_code 13 (.return_) 1 14 := ⟨by decide +kernel, rfl⟩
def Q_c_ini (t : Addr) (F : OH) : Option Value → OH → Prop := fun v H' => v = none ∧ ∃ m, H' = (m, oA .char (List.replicate 256 0)) :: (t, oI "com/example/prim_canon/primcanon/output/HeldText" sg_1 [(.ref m), (.long (0 : Int64)), (.int (0 : Int32)), (.null)]) :: F
set_option maxRecDepth 65536 in
set_option maxHeartbeats 40000000 in
theorem c_ini (l : Launch) (Z : State) (a0 : Array Value) (hw : ∀ d ∈ tables_1, d.before a0 Z = true) (t : Addr) (F : OH)  :
    Met l Z (⟨"com/example/prim_canon/primcanon/output/HeldText", "<init>", "()V"⟩ : MethodName) prog_23_method_1_code 1 none ({ frames := 1, cells := 1, slots := 256, locals := 14 } : Room) [(.ref t)] ((t, oI "com/example/prim_canon/primcanon/output/HeldText" sg_1 [(.null), (.long (0 : Int64)), (.int (0 : Int32)), (.null)]) :: F) (Q_c_ini t F) := by
  refine Met.of_wp (Ls := #[.val (.ref t)]) pn_1 (fun m => by first | rfl | (simp [entryFrame, mkF, argsToLocals, Value.category]; done)) ?_
  show Wp false l Z "com/example/prim_canon/primcanon/output/HeldText" "<init>" prog_23_method_1_code 1 none ({ frames := 1, cells := 1, slots := 256, locals := 14 } : Room) ((t, oI "com/example/prim_canon/primcanon/output/HeldText" sg_1 [(.null), (.long (0 : Int64)), (.int (0 : Int32)), (.null)]) :: F) 0 0 0 #[.val (.ref t)] [] (Q_c_ini t F)
  refine wp_aload_n D_prog_23_m1_0 rfl rfl ?_
  refine wp_initO D_prog_23_m1_1 (hw _ (List.mem_of_getElem? (i := 8) rfl)) (hw _ (List.mem_of_getElem? (i := 9) rfl)) (hw _ (List.mem_of_getElem? (i := 10) rfl)) rfl (Nat.le_of_ble_eq_true rfl) (Nat.le_of_ble_eq_true rfl) ?_
  refine wp_aload_n D_prog_23_m1_4 rfl rfl ?_
  refine wp_sipush 256 D_prog_23_m1_5 (by decide) ?_
  refine wp_newarrayI (n := (256 : Int32)) (256) 256 D_prog_23_m1_8 rfl rfl rfl (hw _ (List.mem_of_getElem? (i := 0) rfl)) (by decide) (by decide) (by decide) (by decide) (by decide) (by decide) ?_
  intro a1
  show Wp false l Z "com/example/prim_canon/primcanon/output/HeldText" "<init>" prog_23_method_1_code 1 none ({ frames := 1, cells := 1, slots := 256, locals := 14 } : Room) ((a1, oA .char (List.replicate 256 0)) :: (t, oI "com/example/prim_canon/primcanon/output/HeldText" sg_1 [(.null), (.long (0 : Int64)), (.int (0 : Int32)), (.null)]) :: F) 1 256 10 #[.val (.ref t)] [(.ref a1), (.ref t)] (Q_c_ini t F)
  refine wp_putfield (i := 1) (fi := 0) (ty := (.array .char)) D_prog_23_m1_10 (hw _ (List.mem_of_getElem? (i := 11) rfl)) rfl rfl rfl (Or.inl (hw _ (List.mem_of_getElem? (i := 12) rfl))) (hw _ (List.mem_of_getElem? (i := 3) rfl)) (by decide) rfl rfl ?_
  show Wp false l Z "com/example/prim_canon/primcanon/output/HeldText" "<init>" prog_23_method_1_code 1 none ({ frames := 1, cells := 1, slots := 256, locals := 14 } : Room) ((a1, oA .char (List.replicate 256 0)) :: (t, oI "com/example/prim_canon/primcanon/output/HeldText" sg_1 [(.ref a1), (.long (0 : Int64)), (.int (0 : Int32)), (.null)]) :: F) 1 256 13 #[.val (.ref t)] [] (Q_c_ini t F)
  refine wp_return D_prog_23_m1_13 rfl (by decide) (by decide) ?_
  exact ⟨rfl, _, rfl⟩
theorem pn_2 : plainFor (⟨"com/example/prim_canon/primcanon/output/HeldText", "isEmpty", "()Z"⟩ : MethodName) = true := by first | exact plainFor_of_name (by first | (simp [plainName, overriddenIn]; done) | decide +kernel) | decide +kernel
theorem D_prog_23_m4_0 : Dc prog_23_method_4_code 0 (.aload_n 0) 1 1 := ⟨by decide +kernel, rfl⟩
theorem D_prog_23_m4_1 : Dc prog_23_method_4_code 1 (.getfield 56) 3 4 := ⟨by decide +kernel, rfl⟩
theorem D_prog_23_m4_4 : Dc prog_23_method_4_code 4 (.lconst 0) 1 5 := ⟨by decide +kernel, rfl⟩
theorem D_prog_23_m4_5 : Dc prog_23_method_4_code 5 (.lcmp) 1 6 := ⟨by decide +kernel, rfl⟩
theorem D_prog_23_m4_6 : Dc prog_23_method_4_code 6 (.ifCond .ne 14) 3 9 := ⟨by decide +kernel, rfl⟩
theorem D_prog_23_m4_9 : Dc prog_23_method_4_code 9 (.aload_n 0) 1 10 := ⟨by decide +kernel, rfl⟩
theorem D_prog_23_m4_10 : Dc prog_23_method_4_code 10 (.getfield 27) 3 13 := ⟨by decide +kernel, rfl⟩
theorem D_prog_23_m4_13 : Dc prog_23_method_4_code 13 (.ifCond .ne 7) 3 16 := ⟨by decide +kernel, rfl⟩
theorem D_prog_23_m4_16 : Dc prog_23_method_4_code 16 (.iconst 1) 1 17 := ⟨by decide +kernel, rfl⟩
theorem D_prog_23_m4_17 : Dc prog_23_method_4_code 17 (.goto 4) 3 20 := ⟨by decide +kernel, rfl⟩
theorem D_prog_23_m4_20 : Dc prog_23_method_4_code 20 (.iconst 0) 1 21 := ⟨by decide +kernel, rfl⟩
theorem D_prog_23_m4_21 : Dc prog_23_method_4_code 21 (.ireturn) 1 22 := ⟨by decide +kernel, rfl⟩
def Q_c_emp (t m : Addr) (q : Int32) (F : OH) : Option Value → OH → Prop := fun v H' => v = some (.int (if q.toInt = 0 then 1 else 0)) ∧ H' = (t, oI "com/example/prim_canon/primcanon/output/HeldText" sg_1 [(.ref m), (.long (0 : Int64)), (.int q), (.null)]) :: F
set_option maxRecDepth 65536 in
set_option maxHeartbeats 40000000 in
theorem c_emp (l : Launch) (Z : State) (a0 : Array Value) (hw : ∀ d ∈ tables_1, d.before a0 Z = true) (t m : Addr) (q : Int32) (F : OH)  :
    Met l Z (⟨"com/example/prim_canon/primcanon/output/HeldText", "isEmpty", "()Z"⟩ : MethodName) prog_23_method_4_code 1 (some .boolean) ({ frames := 0, cells := 0, slots := 0, locals := 0 } : Room) [(.ref t)] ((t, oI "com/example/prim_canon/primcanon/output/HeldText" sg_1 [(.ref m), (.long (0 : Int64)), (.int q), (.null)]) :: F) (Q_c_emp t m q F) := by
  refine Met.of_wp (Ls := #[.val (.ref t)]) pn_2 (fun m => by first | rfl | (simp [entryFrame, mkF, argsToLocals, Value.category]; done)) ?_
  show Wp false l Z "com/example/prim_canon/primcanon/output/HeldText" "isEmpty" prog_23_method_4_code 1 (some .boolean) ({ frames := 0, cells := 0, slots := 0, locals := 0 } : Room) ((t, oI "com/example/prim_canon/primcanon/output/HeldText" sg_1 [(.ref m), (.long (0 : Int64)), (.int q), (.null)]) :: F) 0 0 0 #[.val (.ref t)] [] (Q_c_emp t m q F)
  refine wp_aload_n D_prog_23_m4_0 rfl rfl ?_
  refine wp_getfield D_prog_23_m4_1 (hw _ (List.mem_of_getElem? (i := 18) rfl)) (fld_new (i := 0) (fi := 1) rfl rfl rfl) ?_
  refine wp_lconst 0 D_prog_23_m4_4 (by decide) ?_
  refine wp_lcmp_ne D_prog_23_m4_5 D_prog_23_m4_6 (pc'' := 20) ⟨by decide, by decide⟩ (fun h1 => by exact absurd h1 (by decide)) (fun h1 => ?_)
  refine wp_aload_n D_prog_23_m4_9 rfl rfl ?_
  refine wp_getfield D_prog_23_m4_10 (hw _ (List.mem_of_getElem? (i := 20) rfl)) (fld_new (i := 0) (fi := 2) rfl rfl rfl) ?_
  refine wp_if_ne D_prog_23_m4_13 (pc'' := 20) ⟨by decide, by decide⟩ (fun h2 => ?_) (fun h2 => ?_)
  · skip
    refine wp_iconst 0 D_prog_23_m4_20 (by decide) ?_
    refine wp_ireturnN D_prog_23_m4_21 rfl (by simp) (by decide) (by decide) ?_
    refine ⟨?_, rfl⟩
    show some (Value.int _) = some (Value.int (if q.toInt = 0 then 1 else 0))
    rw [if_neg (by (simp only [Int32.lt_iff_toInt_lt, Int32.le_iff_toInt_le, ← Int32.toInt_inj, Int32.reduceToInt, Int64.lt_iff_toInt_lt, ← Int64.toInt_inj, Int64.reduceToInt] at *; omega))]; rfl
  · skip
    refine wp_iconst 1 D_prog_23_m4_16 (by decide) ?_
    refine wp_goto D_prog_23_m4_17 (pc'' := 21) ⟨by decide, by decide⟩ ?_
    refine wp_ireturnN D_prog_23_m4_21 rfl (by simp) (by decide) (by decide) ?_
    refine ⟨?_, rfl⟩
    show some (Value.int _) = some (Value.int (if q.toInt = 0 then 1 else 0))
    rw [if_pos (by (simp only [Int32.lt_iff_toInt_lt, Int32.le_iff_toInt_le, ← Int32.toInt_inj, Int32.reduceToInt, Int64.lt_iff_toInt_lt, ← Int64.toInt_inj, Int64.reduceToInt] at *; omega))]; rfl
theorem pn_3 : plainFor (⟨"com/example/prim_canon/primcanon/output/HeldText", "clear", "()V"⟩ : MethodName) = true := by first | exact plainFor_of_name (by first | (simp [plainName, overriddenIn]; done) | decide +kernel) | decide +kernel
theorem D_prog_23_m6_0 : Dc prog_23_method_6_code 0 (.aload_n 0) 1 1 := ⟨by decide +kernel, rfl⟩
theorem D_prog_23_m6_1 : Dc prog_23_method_6_code 1 (.getfield 56) 3 4 := ⟨by decide +kernel, rfl⟩
theorem D_prog_23_m6_4 : Dc prog_23_method_6_code 4 (.lconst 0) 1 5 := ⟨by decide +kernel, rfl⟩
theorem D_prog_23_m6_5 : Dc prog_23_method_6_code 5 (.lcmp) 1 6 := ⟨by decide +kernel, rfl⟩
theorem D_prog_23_m6_6 : Dc prog_23_method_6_code 6 (.ifCond .le 17) 3 9 := ⟨by decide +kernel, rfl⟩
theorem D_prog_23_m6_9 : Dc prog_23_method_6_code 9 (.aload_n 0) 1 10 := ⟨by decide +kernel, rfl⟩
theorem D_prog_23_m6_10 : Dc prog_23_method_6_code 10 (.getfield 79) 3 13 := ⟨by decide +kernel, rfl⟩
theorem D_prog_23_m6_13 : Dc prog_23_method_6_code 13 (.lconst 0) 1 14 := ⟨by decide +kernel, rfl⟩
theorem D_prog_23_m6_14 : Dc prog_23_method_6_code 14 (.invokevirtual 116) 3 17 := ⟨by decide +kernel, rfl⟩
theorem D_prog_23_m6_17 : Dc prog_23_method_6_code 17 (.pop) 1 18 := ⟨by decide +kernel, rfl⟩
theorem D_prog_23_m6_18 : Dc prog_23_method_6_code 18 (.aload_n 0) 1 19 := ⟨by decide +kernel, rfl⟩
theorem D_prog_23_m6_19 : Dc prog_23_method_6_code 19 (.lconst 0) 1 20 := ⟨by decide +kernel, rfl⟩
theorem D_prog_23_m6_20 : Dc prog_23_method_6_code 20 (.putfield 56) 3 23 := ⟨by decide +kernel, rfl⟩
theorem D_prog_23_m6_23 : Dc prog_23_method_6_code 23 (.aload_n 0) 1 24 := ⟨by decide +kernel, rfl⟩
theorem D_prog_23_m6_24 : Dc prog_23_method_6_code 24 (.iconst 0) 1 25 := ⟨by decide +kernel, rfl⟩
theorem D_prog_23_m6_25 : Dc prog_23_method_6_code 25 (.putfield 27) 3 28 := ⟨by decide +kernel, rfl⟩
theorem D_prog_23_m6_28 : Dc prog_23_method_6_code 28 (.return_) 1 29 := ⟨by decide +kernel, rfl⟩
def Q_c_clr (t m : Addr) (q : Int32) (F : OH) : Option Value → OH → Prop := fun v H' => v = none ∧ H' = (t, oI "com/example/prim_canon/primcanon/output/HeldText" sg_1 [(.ref m), (.long (0 : Int64)), (.int (0 : Int32)), (.null)]) :: F
set_option maxRecDepth 65536 in
set_option maxHeartbeats 40000000 in
theorem c_clr (l : Launch) (Z : State) (a0 : Array Value) (hw : ∀ d ∈ tables_1, d.before a0 Z = true) (t m : Addr) (q : Int32) (F : OH)  :
    Met l Z (⟨"com/example/prim_canon/primcanon/output/HeldText", "clear", "()V"⟩ : MethodName) prog_23_method_6_code 1 none ({ frames := 0, cells := 0, slots := 0, locals := 0 } : Room) [(.ref t)] ((t, oI "com/example/prim_canon/primcanon/output/HeldText" sg_1 [(.ref m), (.long (0 : Int64)), (.int q), (.null)]) :: F) (Q_c_clr t m q F) := by
  refine Met.of_wp (Ls := #[.val (.ref t)]) pn_3 (fun m => by first | rfl | (simp [entryFrame, mkF, argsToLocals, Value.category]; done)) ?_
  show Wp false l Z "com/example/prim_canon/primcanon/output/HeldText" "clear" prog_23_method_6_code 1 none ({ frames := 0, cells := 0, slots := 0, locals := 0 } : Room) ((t, oI "com/example/prim_canon/primcanon/output/HeldText" sg_1 [(.ref m), (.long (0 : Int64)), (.int q), (.null)]) :: F) 0 0 0 #[.val (.ref t)] [] (Q_c_clr t m q F)
  refine wp_aload_n D_prog_23_m6_0 rfl rfl ?_
  refine wp_getfield D_prog_23_m6_1 (hw _ (List.mem_of_getElem? (i := 18) rfl)) (fld_new (i := 0) (fi := 1) rfl rfl rfl) ?_
  refine wp_lconst 0 D_prog_23_m6_4 (by decide) ?_
  refine wp_lcmp_le D_prog_23_m6_5 D_prog_23_m6_6 (pc'' := 23) ⟨by decide, by decide⟩ (fun h1 => ?_) (fun h1 => by exact absurd h1 (by decide))
  refine wp_aload_n D_prog_23_m6_23 rfl rfl ?_
  refine wp_iconst 0 D_prog_23_m6_24 (by decide) ?_
  refine wp_putfield (i := 0) (fi := 2) (ty := .int) D_prog_23_m6_25 (hw _ (List.mem_of_getElem? (i := 20) rfl)) rfl rfl rfl (Or.inl (hw _ (List.mem_of_getElem? (i := 21) rfl))) (hw _ (List.mem_of_getElem? (i := 3) rfl)) (by decide) rfl rfl ?_
  show Wp false l Z "com/example/prim_canon/primcanon/output/HeldText" "clear" prog_23_method_6_code 1 none ({ frames := 0, cells := 0, slots := 0, locals := 0 } : Room) ((t, oI "com/example/prim_canon/primcanon/output/HeldText" sg_1 [(.ref m), (.long (0 : Int64)), (.int (0 : Int32)), (.null)]) :: F) 0 0 28 #[.val (.ref t)] [] (Q_c_clr t m q F)
  refine wp_return D_prog_23_m6_28 rfl (by decide) (by decide) ?_
  exact ⟨rfl, rfl⟩
theorem pn_4 : plainFor (⟨"com/example/prim_canon/primcanon/output/HeldText", "append", "([CII)V"⟩ : MethodName) = true := by first | exact plainFor_of_name (by first | (simp [plainName, overriddenIn]; done) | decide +kernel) | decide +kernel
theorem D_prog_23_m3_0 : Dc prog_23_method_3_code 0 (.aload_n 0) 1 1 := ⟨by decide +kernel, rfl⟩
theorem D_prog_23_m3_1 : Dc prog_23_method_3_code 1 (.getfield 27) 3 4 := ⟨by decide +kernel, rfl⟩
theorem D_prog_23_m3_4 : Dc prog_23_method_3_code 4 (.iload_n 3) 1 5 := ⟨by decide +kernel, rfl⟩
theorem D_prog_23_m3_5 : Dc prog_23_method_3_code 5 (.iadd) 1 6 := ⟨by decide +kernel, rfl⟩
theorem D_prog_23_m3_6 : Dc prog_23_method_3_code 6 (.ldc 31) 2 8 := ⟨by decide +kernel, rfl⟩
theorem D_prog_23_m3_8 : Dc prog_23_method_3_code 8 (.if_icmp .le 21) 3 11 := ⟨by decide +kernel, rfl⟩
theorem D_prog_23_m3_11 : Dc prog_23_method_3_code 11 (.aload_n 0) 1 12 := ⟨by decide +kernel, rfl⟩
theorem D_prog_23_m3_12 : Dc prog_23_method_3_code 12 (.aload_n 0) 1 13 := ⟨by decide +kernel, rfl⟩
theorem D_prog_23_m3_13 : Dc prog_23_method_3_code 13 (.getfield 9) 3 16 := ⟨by decide +kernel, rfl⟩
theorem D_prog_23_m3_16 : Dc prog_23_method_3_code 16 (.iconst 0) 1 17 := ⟨by decide +kernel, rfl⟩
theorem D_prog_23_m3_17 : Dc prog_23_method_3_code 17 (.aload_n 0) 1 18 := ⟨by decide +kernel, rfl⟩
theorem D_prog_23_m3_18 : Dc prog_23_method_3_code 18 (.getfield 27) 3 21 := ⟨by decide +kernel, rfl⟩
theorem D_prog_23_m3_21 : Dc prog_23_method_3_code 21 (.invokevirtual 32) 3 24 := ⟨by decide +kernel, rfl⟩
theorem D_prog_23_m3_24 : Dc prog_23_method_3_code 24 (.aload_n 0) 1 25 := ⟨by decide +kernel, rfl⟩
theorem D_prog_23_m3_25 : Dc prog_23_method_3_code 25 (.iconst 0) 1 26 := ⟨by decide +kernel, rfl⟩
theorem D_prog_23_m3_26 : Dc prog_23_method_3_code 26 (.putfield 27) 3 29 := ⟨by decide +kernel, rfl⟩
theorem D_prog_23_m3_29 : Dc prog_23_method_3_code 29 (.iload_n 3) 1 30 := ⟨by decide +kernel, rfl⟩
theorem D_prog_23_m3_30 : Dc prog_23_method_3_code 30 (.ldc 31) 2 32 := ⟨by decide +kernel, rfl⟩
theorem D_prog_23_m3_32 : Dc prog_23_method_3_code 32 (.if_icmp .le 13) 3 35 := ⟨by decide +kernel, rfl⟩
theorem D_prog_23_m3_35 : Dc prog_23_method_3_code 35 (.aload_n 0) 1 36 := ⟨by decide +kernel, rfl⟩
theorem D_prog_23_m3_36 : Dc prog_23_method_3_code 36 (.aload_n 1) 1 37 := ⟨by decide +kernel, rfl⟩
theorem D_prog_23_m3_37 : Dc prog_23_method_3_code 37 (.iload_n 2) 1 38 := ⟨by decide +kernel, rfl⟩
theorem D_prog_23_m3_38 : Dc prog_23_method_3_code 38 (.iload_n 3) 1 39 := ⟨by decide +kernel, rfl⟩
theorem D_prog_23_m3_39 : Dc prog_23_method_3_code 39 (.invokevirtual 32) 3 42 := ⟨by decide +kernel, rfl⟩
theorem D_prog_23_m3_42 : Dc prog_23_method_3_code 42 (.goto 73) 3 45 := ⟨by decide +kernel, rfl⟩
theorem D_prog_23_m3_45 : Dc prog_23_method_3_code 45 (.aload_n 0) 1 46 := ⟨by decide +kernel, rfl⟩
theorem D_prog_23_m3_46 : Dc prog_23_method_3_code 46 (.getfield 27) 3 49 := ⟨by decide +kernel, rfl⟩
theorem D_prog_23_m3_49 : Dc prog_23_method_3_code 49 (.iload_n 3) 1 50 := ⟨by decide +kernel, rfl⟩
theorem D_prog_23_m3_50 : Dc prog_23_method_3_code 50 (.iadd) 1 51 := ⟨by decide +kernel, rfl⟩
theorem D_prog_23_m3_51 : Dc prog_23_method_3_code 51 (.aload_n 0) 1 52 := ⟨by decide +kernel, rfl⟩
theorem D_prog_23_m3_52 : Dc prog_23_method_3_code 52 (.getfield 9) 3 55 := ⟨by decide +kernel, rfl⟩
theorem D_prog_23_m3_55 : Dc prog_23_method_3_code 55 (.arraylength) 1 56 := ⟨by decide +kernel, rfl⟩
theorem D_prog_23_m3_56 : Dc prog_23_method_3_code 56 (.if_icmp .le 35) 3 59 := ⟨by decide +kernel, rfl⟩
theorem D_prog_23_m3_59 : Dc prog_23_method_3_code 59 (.aload_n 0) 1 60 := ⟨by decide +kernel, rfl⟩
theorem D_prog_23_m3_60 : Dc prog_23_method_3_code 60 (.aload_n 0) 1 61 := ⟨by decide +kernel, rfl⟩
theorem D_prog_23_m3_61 : Dc prog_23_method_3_code 61 (.getfield 9) 3 64 := ⟨by decide +kernel, rfl⟩
theorem D_prog_23_m3_64 : Dc prog_23_method_3_code 64 (.ldc 31) 2 66 := ⟨by decide +kernel, rfl⟩
theorem D_prog_23_m3_66 : Dc prog_23_method_3_code 66 (.aload_n 0) 1 67 := ⟨by decide +kernel, rfl⟩
theorem D_prog_23_m3_67 : Dc prog_23_method_3_code 67 (.getfield 27) 3 70 := ⟨by decide +kernel, rfl⟩
theorem D_prog_23_m3_70 : Dc prog_23_method_3_code 70 (.iload_n 3) 1 71 := ⟨by decide +kernel, rfl⟩
theorem D_prog_23_m3_71 : Dc prog_23_method_3_code 71 (.iadd) 1 72 := ⟨by decide +kernel, rfl⟩
theorem D_prog_23_m3_72 : Dc prog_23_method_3_code 72 (.iconst 2) 1 73 := ⟨by decide +kernel, rfl⟩
theorem D_prog_23_m3_73 : Dc prog_23_method_3_code 73 (.aload_n 0) 1 74 := ⟨by decide +kernel, rfl⟩
theorem D_prog_23_m3_74 : Dc prog_23_method_3_code 74 (.getfield 9) 3 77 := ⟨by decide +kernel, rfl⟩
theorem D_prog_23_m3_77 : Dc prog_23_method_3_code 77 (.arraylength) 1 78 := ⟨by decide +kernel, rfl⟩
theorem D_prog_23_m3_78 : Dc prog_23_method_3_code 78 (.imul) 1 79 := ⟨by decide +kernel, rfl⟩
theorem D_prog_23_m3_79 : Dc prog_23_method_3_code 79 (.invokestatic 35) 3 82 := ⟨by decide +kernel, rfl⟩
theorem D_prog_23_m3_82 : Dc prog_23_method_3_code 82 (.invokestatic 41) 3 85 := ⟨by decide +kernel, rfl⟩
theorem D_prog_23_m3_85 : Dc prog_23_method_3_code 85 (.invokestatic 44) 3 88 := ⟨by decide +kernel, rfl⟩
theorem D_prog_23_m3_88 : Dc prog_23_method_3_code 88 (.putfield 9) 3 91 := ⟨by decide +kernel, rfl⟩
theorem D_prog_23_m3_91 : Dc prog_23_method_3_code 91 (.aload_n 1) 1 92 := ⟨by decide +kernel, rfl⟩
theorem D_prog_23_m3_92 : Dc prog_23_method_3_code 92 (.iload_n 2) 1 93 := ⟨by decide +kernel, rfl⟩
theorem D_prog_23_m3_93 : Dc prog_23_method_3_code 93 (.aload_n 0) 1 94 := ⟨by decide +kernel, rfl⟩
theorem D_prog_23_m3_94 : Dc prog_23_method_3_code 94 (.getfield 9) 3 97 := ⟨by decide +kernel, rfl⟩
theorem D_prog_23_m3_97 : Dc prog_23_method_3_code 97 (.aload_n 0) 1 98 := ⟨by decide +kernel, rfl⟩
theorem D_prog_23_m3_98 : Dc prog_23_method_3_code 98 (.getfield 27) 3 101 := ⟨by decide +kernel, rfl⟩
theorem D_prog_23_m3_101 : Dc prog_23_method_3_code 101 (.iload_n 3) 1 102 := ⟨by decide +kernel, rfl⟩
theorem D_prog_23_m3_102 : Dc prog_23_method_3_code 102 (.invokestatic 50) 3 105 := ⟨by decide +kernel, rfl⟩
theorem D_prog_23_m3_105 : Dc prog_23_method_3_code 105 (.aload_n 0) 1 106 := ⟨by decide +kernel, rfl⟩
theorem D_prog_23_m3_106 : Dc prog_23_method_3_code 106 (.dup) 1 107 := ⟨by decide +kernel, rfl⟩
theorem D_prog_23_m3_107 : Dc prog_23_method_3_code 107 (.getfield 27) 3 110 := ⟨by decide +kernel, rfl⟩
theorem D_prog_23_m3_110 : Dc prog_23_method_3_code 110 (.iload_n 3) 1 111 := ⟨by decide +kernel, rfl⟩
theorem D_prog_23_m3_111 : Dc prog_23_method_3_code 111 (.iadd) 1 112 := ⟨by decide +kernel, rfl⟩
theorem D_prog_23_m3_112 : Dc prog_23_method_3_code 112 (.putfield 27) 3 115 := ⟨by decide +kernel, rfl⟩
theorem D_prog_23_m3_115 : Dc prog_23_method_3_code 115 (.return_) 1 116 := ⟨by decide +kernel, rfl⟩
def Q_c_app (t x m : Addr) (s n q : Int32) (xs ys : List Int32) (F : OH) : Option Value → OH → Prop := fun v H' => v = none ∧ ∃ ys', ys'.length = 256 ∧ H' = (t, oI "com/example/prim_canon/primcanon/output/HeldText" sg_1 [(.ref m), (.long (0 : Int64)), (.int (q + n)), (.null)]) :: (m, oA .char ys') :: (x, oA .char xs) :: F
set_option maxRecDepth 65536 in
set_option maxHeartbeats 40000000 in
theorem c_app (l : Launch) (Z : State) (a0 : Array Value) (hw : ∀ d ∈ tables_1, d.before a0 Z = true) (t x m : Addr) (s n q : Int32) (xs ys : List Int32) (F : OH)  (hy : ys.length = 256) (hx4 : xs.length = 4) (h1 : 0 ≤ q.toInt) (h2 : q.toInt + n.toInt ≤ 256) (h3 : 0 ≤ n.toInt) (h4 : 0 ≤ s.toInt) (h5 : s.toInt + n.toInt ≤ 4) :
    Met l Z (⟨"com/example/prim_canon/primcanon/output/HeldText", "append", "([CII)V"⟩ : MethodName) prog_23_method_3_code 4 none ({ frames := 1, cells := 0, slots := 0, locals := 18 } : Room) [(.ref t), (.ref x), (.int s), (.int n)] ((t, oI "com/example/prim_canon/primcanon/output/HeldText" sg_1 [(.ref m), (.long (0 : Int64)), (.int q), (.null)]) :: (m, oA .char ys) :: (x, oA .char xs) :: F) (Q_c_app t x m s n q xs ys F) := by
  refine Met.of_wp (Ls := #[.val (.ref t), .val (.ref x), .val (.int s), .val (.int n)]) pn_4 (fun m => by first | rfl | (simp [entryFrame, mkF, argsToLocals, Value.category]; done)) ?_
  show Wp false l Z "com/example/prim_canon/primcanon/output/HeldText" "append" prog_23_method_3_code 4 none ({ frames := 1, cells := 0, slots := 0, locals := 18 } : Room) ((t, oI "com/example/prim_canon/primcanon/output/HeldText" sg_1 [(.ref m), (.long (0 : Int64)), (.int q), (.null)]) :: (m, oA .char ys) :: (x, oA .char xs) :: F) 0 0 0 #[.val (.ref t), .val (.ref x), .val (.int s), .val (.int n)] [] (Q_c_app t x m s n q xs ys F)
  have hqn := own_sum q n h1 h2 h3
  refine wp_aload_n D_prog_23_m3_0 rfl rfl ?_
  refine wp_getfield D_prog_23_m3_1 (hw _ (List.mem_of_getElem? (i := 20) rfl)) (fld_new (i := 0) (fi := 2) rfl rfl rfl) ?_
  refine wp_iload_n D_prog_23_m3_4 rfl ?_
  refine wp_iadd D_prog_23_m3_5 ?_
  refine wp_ldcI D_prog_23_m3_6 (hw _ (List.mem_of_getElem? (i := 27) rfl)) ?_
  refine wp_icmp_le D_prog_23_m3_8 (pc'' := 29) ⟨by decide, by decide⟩ (fun h1 => ?_) (fun h1 => by exfalso; (simp only [Int32.lt_iff_toInt_lt, Int32.le_iff_toInt_le, ← Int32.toInt_inj, Int32.reduceToInt, Int64.lt_iff_toInt_lt, ← Int64.toInt_inj, Int64.reduceToInt] at *; omega))
  refine wp_iload_n D_prog_23_m3_29 rfl ?_
  refine wp_ldcI D_prog_23_m3_30 (hw _ (List.mem_of_getElem? (i := 27) rfl)) ?_
  refine wp_icmp_le D_prog_23_m3_32 (pc'' := 45) ⟨by decide, by decide⟩ (fun h2 => ?_) (fun h2 => by exfalso; (simp only [Int32.lt_iff_toInt_lt, Int32.le_iff_toInt_le, ← Int32.toInt_inj, Int32.reduceToInt, Int64.lt_iff_toInt_lt, ← Int64.toInt_inj, Int64.reduceToInt] at *; omega))
  refine wp_aload_n D_prog_23_m3_45 rfl rfl ?_
  refine wp_getfield D_prog_23_m3_46 (hw _ (List.mem_of_getElem? (i := 20) rfl)) (fld_new (i := 0) (fi := 2) rfl rfl rfl) ?_
  refine wp_iload_n D_prog_23_m3_49 rfl ?_
  refine wp_iadd D_prog_23_m3_50 ?_
  refine wp_aload_n D_prog_23_m3_51 rfl rfl ?_
  refine wp_getfield D_prog_23_m3_52 (hw _ (List.mem_of_getElem? (i := 11) rfl)) (fld_new (i := 0) (fi := 0) rfl rfl rfl) ?_
  refine wp_lengthI (i := 1) (256 : Int32) D_prog_23_m3_55 rfl (by rw [hy]; rfl) ?_
  refine wp_icmp_le D_prog_23_m3_56 (pc'' := 91) ⟨by decide, by decide⟩ (fun h3 => ?_) (fun h3 => by exfalso; (simp only [Int32.lt_iff_toInt_lt, Int32.le_iff_toInt_le, ← Int32.toInt_inj, Int32.reduceToInt, Int64.lt_iff_toInt_lt, ← Int64.toInt_inj, Int64.reduceToInt] at *; omega))
  refine wp_aload_n D_prog_23_m3_91 rfl rfl ?_
  refine wp_iload_n D_prog_23_m3_92 rfl ?_
  refine wp_aload_n D_prog_23_m3_93 rfl rfl ?_
  refine wp_getfield D_prog_23_m3_94 (hw _ (List.mem_of_getElem? (i := 11) rfl)) (fld_new (i := 0) (fi := 0) rfl rfl rfl) ?_
  refine wp_aload_n D_prog_23_m3_97 rfl rfl ?_
  refine wp_getfield D_prog_23_m3_98 (hw _ (List.mem_of_getElem? (i := 20) rfl)) (fld_new (i := 0) (fi := 2) rfl rfl rfl) ?_
  refine wp_iload_n D_prog_23_m3_101 rfl ?_
  refine wp_arraycopyI (i := 2) (i' := 1) s.toNatClampNeg q.toNatClampNeg n.toNatClampNeg D_prog_23_m3_102 (hw _ (List.mem_of_getElem? (i := 28) rfl)) (hw _ (List.mem_of_getElem? (i := 31) rfl)) (hw _ (List.mem_of_getElem? (i := 29) rfl)) (hw _ (List.mem_of_getElem? (i := 30) rfl)) rfl rfl rfl (by (simp only [Int32.lt_iff_toInt_lt, Int32.le_iff_toInt_le, ← Int32.toInt_inj, Int32.reduceToInt, Int64.lt_iff_toInt_lt, ← Int64.toInt_inj, Int64.reduceToInt] at *; omega)) (by (simp only [Int32.lt_iff_toInt_lt, Int32.le_iff_toInt_le, ← Int32.toInt_inj, Int32.reduceToInt, Int64.lt_iff_toInt_lt, ← Int64.toInt_inj, Int64.reduceToInt] at *; omega)) (by (simp only [Int32.lt_iff_toInt_lt, Int32.le_iff_toInt_le, ← Int32.toInt_inj, Int32.reduceToInt, Int64.lt_iff_toInt_lt, ← Int64.toInt_inj, Int64.reduceToInt] at *; omega)) rfl rfl rfl (by simp only [Int32.toNatClampNeg, hy, hx4]; omega) (by simp only [Int32.toNatClampNeg, hy, hx4]; omega) (by rw [hx4]; decide) (by rw [hy]; decide) rfl (by decide) (by decide) ?_
  show Wp false l Z "com/example/prim_canon/primcanon/output/HeldText" "append" prog_23_method_3_code 4 none ({ frames := 1, cells := 0, slots := 0, locals := 18 } : Room) ((t, oI "com/example/prim_canon/primcanon/output/HeldText" sg_1 [(.ref m), (.long (0 : Int64)), (.int q), (.null)]) :: (m, oA .char (ys.take q.toNatClampNeg ++ (xs.drop s.toNatClampNeg).take n.toNatClampNeg ++ ys.drop (q.toNatClampNeg + n.toNatClampNeg))) :: (x, oA .char xs) :: F) 0 0 105 #[.val (.ref t), .val (.ref x), .val (.int s), .val (.int n)] [] (Q_c_app t x m s n q xs ys F)
  refine wp_aload_n D_prog_23_m3_105 rfl rfl ?_
  refine wp_dup D_prog_23_m3_106 rfl ?_
  refine wp_getfield D_prog_23_m3_107 (hw _ (List.mem_of_getElem? (i := 20) rfl)) (fld_new (i := 0) (fi := 2) rfl rfl rfl) ?_
  refine wp_iload_n D_prog_23_m3_110 rfl ?_
  refine wp_iadd D_prog_23_m3_111 ?_
  refine wp_putfield (i := 0) (fi := 2) (ty := .int) D_prog_23_m3_112 (hw _ (List.mem_of_getElem? (i := 20) rfl)) rfl rfl rfl (Or.inl (hw _ (List.mem_of_getElem? (i := 21) rfl))) (hw _ (List.mem_of_getElem? (i := 3) rfl)) (by decide) rfl rfl ?_
  show Wp false l Z "com/example/prim_canon/primcanon/output/HeldText" "append" prog_23_method_3_code 4 none ({ frames := 1, cells := 0, slots := 0, locals := 18 } : Room) ((t, oI "com/example/prim_canon/primcanon/output/HeldText" sg_1 [(.ref m), (.long (0 : Int64)), (.int (q + n)), (.null)]) :: (m, oA .char (ys.take q.toNatClampNeg ++ (xs.drop s.toNatClampNeg).take n.toNatClampNeg ++ ys.drop (q.toNatClampNeg + n.toNatClampNeg))) :: (x, oA .char xs) :: F) 0 0 115 #[.val (.ref t), .val (.ref x), .val (.int s), .val (.int n)] [] (Q_c_app t x m s n q xs ys F)
  refine wp_return D_prog_23_m3_115 rfl (by decide) (by decide) ?_
  exact ⟨rfl, _, by simp only [List.length_append, List.length_take, List.length_drop, Int32.toNatClampNeg, hy, hx4]; omega, rfl⟩
theorem pd_2 : parseMethodDescriptor "()V" = some ⟨[], none⟩ := by decide +kernel
theorem pd_3 : parseMethodDescriptor "()Z" = some ⟨[], (some .boolean)⟩ := by decide +kernel
theorem pd_4 : parseMethodDescriptor "([CII)V" = some ⟨[(.array .char), .int, .int], none⟩ := by decide +kernel
theorem pn_5 : plainFor (⟨"com/example/prim_canon/primcanon/output/HeldTextIsEmptyPinLaw", "law", "(IIII)Z"⟩ : MethodName) = true := by first | exact plainFor_of_name (by first | (simp [plainName, overriddenIn]; done) | decide +kernel) | decide +kernel
def Q_law : Option Value → OH → Prop := fun v H' => v = some (.int 1)
theorem D_0 : Dc code 0 (.iconst 4) 1 1 := ⟨at_0, rfl⟩
theorem D_1 : Dc code 1 (.newarray .char) 2 3 := ⟨at_1, rfl⟩
theorem D_3 : Dc code 3 (.astore 4) 2 5 := ⟨at_3, rfl⟩
theorem D_5 : Dc code 5 (.aload 4) 2 7 := ⟨at_5, rfl⟩
theorem D_7 : Dc code 7 (.iconst 0) 1 8 := ⟨at_7, rfl⟩
theorem D_8 : Dc code 8 (.iload_n 0) 1 9 := ⟨at_8, rfl⟩
theorem D_9 : Dc code 9 (.sipush 255) 3 12 := ⟨at_9, rfl⟩
theorem D_12 : Dc code 12 (.iand) 1 13 := ⟨at_12, rfl⟩
theorem D_13 : Dc code 13 (.i2c) 1 14 := ⟨at_13, rfl⟩
theorem D_14 : Dc code 14 (.castore) 1 15 := ⟨at_14, rfl⟩
theorem D_15 : Dc code 15 (.aload 4) 2 17 := ⟨at_15, rfl⟩
theorem D_17 : Dc code 17 (.iconst 1) 1 18 := ⟨at_17, rfl⟩
theorem D_18 : Dc code 18 (.iload_n 1) 1 19 := ⟨at_18, rfl⟩
theorem D_19 : Dc code 19 (.sipush 255) 3 22 := ⟨at_19, rfl⟩
theorem D_22 : Dc code 22 (.iand) 1 23 := ⟨at_22, rfl⟩
theorem D_23 : Dc code 23 (.i2c) 1 24 := ⟨at_23, rfl⟩
theorem D_24 : Dc code 24 (.castore) 1 25 := ⟨at_24, rfl⟩
theorem D_25 : Dc code 25 (.aload 4) 2 27 := ⟨at_25, rfl⟩
theorem D_27 : Dc code 27 (.iconst 2) 1 28 := ⟨at_27, rfl⟩
theorem D_28 : Dc code 28 (.iload_n 2) 1 29 := ⟨at_28, rfl⟩
theorem D_29 : Dc code 29 (.sipush 255) 3 32 := ⟨at_29, rfl⟩
theorem D_32 : Dc code 32 (.iand) 1 33 := ⟨at_32, rfl⟩
theorem D_33 : Dc code 33 (.i2c) 1 34 := ⟨at_33, rfl⟩
theorem D_34 : Dc code 34 (.castore) 1 35 := ⟨at_34, rfl⟩
theorem D_35 : Dc code 35 (.aload 4) 2 37 := ⟨at_35, rfl⟩
theorem D_37 : Dc code 37 (.iconst 3) 1 38 := ⟨at_37, rfl⟩
theorem D_38 : Dc code 38 (.iload_n 3) 1 39 := ⟨at_38, rfl⟩
theorem D_39 : Dc code 39 (.sipush 255) 3 42 := ⟨at_39, rfl⟩
theorem D_42 : Dc code 42 (.iand) 1 43 := ⟨at_42, rfl⟩
theorem D_43 : Dc code 43 (.i2c) 1 44 := ⟨at_43, rfl⟩
theorem D_44 : Dc code 44 (.castore) 1 45 := ⟨at_44, rfl⟩
theorem D_45 : Dc code 45 (.iload_n 0) 1 46 := ⟨at_45, rfl⟩
theorem D_46 : Dc code 46 (.iconst 3) 1 47 := ⟨at_46, rfl⟩
theorem D_47 : Dc code 47 (.iand) 1 48 := ⟨at_47, rfl⟩
theorem D_48 : Dc code 48 (.istore 5) 2 50 := ⟨at_48, rfl⟩
theorem D_50 : Dc code 50 (.iload_n 2) 1 51 := ⟨at_50, rfl⟩
theorem D_51 : Dc code 51 (.ldc 7) 2 53 := ⟨at_51, rfl⟩
theorem D_53 : Dc code 53 (.iand) 1 54 := ⟨at_53, rfl⟩
theorem D_54 : Dc code 54 (.iconst 5) 1 55 := ⟨at_54, rfl⟩
theorem D_55 : Dc code 55 (.iload 5) 2 57 := ⟨at_55, rfl⟩
theorem D_57 : Dc code 57 (.isub) 1 58 := ⟨at_57, rfl⟩
theorem D_58 : Dc code 58 (.irem) 1 59 := ⟨at_58, rfl⟩
theorem D_59 : Dc code 59 (.istore 6) 2 61 := ⟨at_59, rfl⟩
theorem D_61 : Dc code 61 (.iload_n 1) 1 62 := ⟨at_61, rfl⟩
theorem D_62 : Dc code 62 (.iconst 3) 1 63 := ⟨at_62, rfl⟩
theorem D_63 : Dc code 63 (.iand) 1 64 := ⟨at_63, rfl⟩
theorem D_64 : Dc code 64 (.istore 7) 2 66 := ⟨at_64, rfl⟩
theorem D_66 : Dc code 66 (.iload_n 2) 1 67 := ⟨at_66, rfl⟩
theorem D_67 : Dc code 67 (.bipush 8) 2 69 := ⟨at_67, rfl⟩
theorem D_69 : Dc code 69 (.iushr) 1 70 := ⟨at_69, rfl⟩
theorem D_70 : Dc code 70 (.iconst 5) 1 71 := ⟨at_70, rfl⟩
theorem D_71 : Dc code 71 (.iload 7) 2 73 := ⟨at_71, rfl⟩
theorem D_73 : Dc code 73 (.isub) 1 74 := ⟨at_73, rfl⟩
theorem D_74 : Dc code 74 (.irem) 1 75 := ⟨at_74, rfl⟩
theorem D_75 : Dc code 75 (.istore 8) 2 77 := ⟨at_75, rfl⟩
theorem D_77 : Dc code 77 (.iload_n 3) 1 78 := ⟨at_77, rfl⟩
theorem D_78 : Dc code 78 (.iconst 1) 1 79 := ⟨at_78, rfl⟩
theorem D_79 : Dc code 79 (.iushr) 1 80 := ⟨at_79, rfl⟩
theorem D_80 : Dc code 80 (.iconst 3) 1 81 := ⟨at_80, rfl⟩
theorem D_81 : Dc code 81 (.iand) 1 82 := ⟨at_81, rfl⟩
theorem D_82 : Dc code 82 (.istore 9) 2 84 := ⟨at_82, rfl⟩
theorem D_84 : Dc code 84 (.iload_n 3) 1 85 := ⟨at_84, rfl⟩
theorem D_85 : Dc code 85 (.iconst 3) 1 86 := ⟨at_85, rfl⟩
theorem D_86 : Dc code 86 (.iushr) 1 87 := ⟨at_86, rfl⟩
theorem D_87 : Dc code 87 (.iconst 5) 1 88 := ⟨at_87, rfl⟩
theorem D_88 : Dc code 88 (.iload 9) 2 90 := ⟨at_88, rfl⟩
theorem D_90 : Dc code 90 (.isub) 1 91 := ⟨at_90, rfl⟩
theorem D_91 : Dc code 91 (.irem) 1 92 := ⟨at_91, rfl⟩
theorem D_92 : Dc code 92 (.istore 10) 2 94 := ⟨at_92, rfl⟩
theorem D_94 : Dc code 94 (.new 8) 3 97 := ⟨at_94, rfl⟩
theorem D_97 : Dc code 97 (.dup) 1 98 := ⟨at_97, rfl⟩
theorem D_98 : Dc code 98 (.invokespecial 10) 3 101 := ⟨at_98, rfl⟩
theorem D_101 : Dc code 101 (.astore 11) 2 103 := ⟨at_101, rfl⟩
theorem D_103 : Dc code 103 (.aload 11) 2 105 := ⟨at_103, rfl⟩
theorem D_105 : Dc code 105 (.invokevirtual 11) 3 108 := ⟨at_105, rfl⟩
theorem D_108 : Dc code 108 (.istore 12) 2 110 := ⟨at_108, rfl⟩
theorem D_110 : Dc code 110 (.aload 11) 2 112 := ⟨at_110, rfl⟩
theorem D_112 : Dc code 112 (.aload 4) 2 114 := ⟨at_112, rfl⟩
theorem D_114 : Dc code 114 (.iload 6) 2 116 := ⟨at_114, rfl⟩
theorem D_116 : Dc code 116 (.iload 5) 2 118 := ⟨at_116, rfl⟩
theorem D_118 : Dc code 118 (.invokevirtual 15) 3 121 := ⟨at_118, rfl⟩
theorem D_121 : Dc code 121 (.iload 12) 2 123 := ⟨at_121, rfl⟩
theorem D_123 : Dc code 123 (.ifCond .eq 25) 3 126 := ⟨at_123, rfl⟩
theorem D_126 : Dc code 126 (.aload 11) 2 128 := ⟨at_126, rfl⟩
theorem D_128 : Dc code 128 (.invokevirtual 11) 3 131 := ⟨at_128, rfl⟩
theorem D_131 : Dc code 131 (.iload 5) 2 133 := ⟨at_131, rfl⟩
theorem D_133 : Dc code 133 (.ifCond .ne 7) 3 136 := ⟨at_133, rfl⟩
theorem D_136 : Dc code 136 (.iconst 1) 1 137 := ⟨at_136, rfl⟩
theorem D_137 : Dc code 137 (.goto 4) 3 140 := ⟨at_137, rfl⟩
theorem D_140 : Dc code 140 (.iconst 0) 1 141 := ⟨at_140, rfl⟩
theorem D_141 : Dc code 141 (.if_icmp .ne 7) 3 144 := ⟨at_141, rfl⟩
theorem D_144 : Dc code 144 (.iconst 1) 1 145 := ⟨at_144, rfl⟩
theorem D_145 : Dc code 145 (.goto 4) 3 148 := ⟨at_145, rfl⟩
theorem D_148 : Dc code 148 (.iconst 0) 1 149 := ⟨at_148, rfl⟩
theorem D_149 : Dc code 149 (.istore 12) 2 151 := ⟨at_149, rfl⟩
theorem D_151 : Dc code 151 (.aload 11) 2 153 := ⟨at_151, rfl⟩
theorem D_153 : Dc code 153 (.aload 4) 2 155 := ⟨at_153, rfl⟩
theorem D_155 : Dc code 155 (.iload 8) 2 157 := ⟨at_155, rfl⟩
theorem D_157 : Dc code 157 (.iload 7) 2 159 := ⟨at_157, rfl⟩
theorem D_159 : Dc code 159 (.invokevirtual 15) 3 162 := ⟨at_159, rfl⟩
theorem D_162 : Dc code 162 (.iload 12) 2 164 := ⟨at_162, rfl⟩
theorem D_164 : Dc code 164 (.ifCond .eq 28) 3 167 := ⟨at_164, rfl⟩
theorem D_167 : Dc code 167 (.aload 11) 2 169 := ⟨at_167, rfl⟩
theorem D_169 : Dc code 169 (.invokevirtual 11) 3 172 := ⟨at_169, rfl⟩
theorem D_172 : Dc code 172 (.iload 5) 2 174 := ⟨at_172, rfl⟩
theorem D_174 : Dc code 174 (.iload 7) 2 176 := ⟨at_174, rfl⟩
theorem D_176 : Dc code 176 (.iadd) 1 177 := ⟨at_176, rfl⟩
theorem D_177 : Dc code 177 (.ifCond .ne 7) 3 180 := ⟨at_177, rfl⟩
theorem D_180 : Dc code 180 (.iconst 1) 1 181 := ⟨at_180, rfl⟩
theorem D_181 : Dc code 181 (.goto 4) 3 184 := ⟨at_181, rfl⟩
theorem D_184 : Dc code 184 (.iconst 0) 1 185 := ⟨at_184, rfl⟩
theorem D_185 : Dc code 185 (.if_icmp .ne 7) 3 188 := ⟨at_185, rfl⟩
theorem D_188 : Dc code 188 (.iconst 1) 1 189 := ⟨at_188, rfl⟩
theorem D_189 : Dc code 189 (.goto 4) 3 192 := ⟨at_189, rfl⟩
theorem D_192 : Dc code 192 (.iconst 0) 1 193 := ⟨at_192, rfl⟩
theorem D_193 : Dc code 193 (.istore 12) 2 195 := ⟨at_193, rfl⟩
theorem D_195 : Dc code 195 (.iload_n 3) 1 196 := ⟨at_195, rfl⟩
theorem D_196 : Dc code 196 (.iconst 1) 1 197 := ⟨at_196, rfl⟩
theorem D_197 : Dc code 197 (.iand) 1 198 := ⟨at_197, rfl⟩
theorem D_198 : Dc code 198 (.ifCond .eq 69) 3 201 := ⟨at_198, rfl⟩
theorem D_201 : Dc code 201 (.aload 11) 2 203 := ⟨at_201, rfl⟩
theorem D_203 : Dc code 203 (.invokevirtual 19) 3 206 := ⟨at_203, rfl⟩
theorem D_206 : Dc code 206 (.iload 12) 2 208 := ⟨at_206, rfl⟩
theorem D_208 : Dc code 208 (.ifCond .eq 15) 3 211 := ⟨at_208, rfl⟩
theorem D_211 : Dc code 211 (.aload 11) 2 213 := ⟨at_211, rfl⟩
theorem D_213 : Dc code 213 (.invokevirtual 11) 3 216 := ⟨at_213, rfl⟩
theorem D_216 : Dc code 216 (.ifCond .eq 7) 3 219 := ⟨at_216, rfl⟩
theorem D_219 : Dc code 219 (.iconst 1) 1 220 := ⟨at_219, rfl⟩
theorem D_220 : Dc code 220 (.goto 4) 3 223 := ⟨at_220, rfl⟩
theorem D_223 : Dc code 223 (.iconst 0) 1 224 := ⟨at_223, rfl⟩
theorem D_224 : Dc code 224 (.istore 12) 2 226 := ⟨at_224, rfl⟩
theorem D_226 : Dc code 226 (.aload 11) 2 228 := ⟨at_226, rfl⟩
theorem D_228 : Dc code 228 (.aload 4) 2 230 := ⟨at_228, rfl⟩
theorem D_230 : Dc code 230 (.iload 10) 2 232 := ⟨at_230, rfl⟩
theorem D_232 : Dc code 232 (.iload 9) 2 234 := ⟨at_232, rfl⟩
theorem D_234 : Dc code 234 (.invokevirtual 15) 3 237 := ⟨at_234, rfl⟩
theorem D_237 : Dc code 237 (.iload 12) 2 239 := ⟨at_237, rfl⟩
theorem D_239 : Dc code 239 (.ifCond .eq 25) 3 242 := ⟨at_239, rfl⟩
theorem D_242 : Dc code 242 (.aload 11) 2 244 := ⟨at_242, rfl⟩
theorem D_244 : Dc code 244 (.invokevirtual 11) 3 247 := ⟨at_244, rfl⟩
theorem D_247 : Dc code 247 (.iload 9) 2 249 := ⟨at_247, rfl⟩
theorem D_249 : Dc code 249 (.ifCond .ne 7) 3 252 := ⟨at_249, rfl⟩
theorem D_252 : Dc code 252 (.iconst 1) 1 253 := ⟨at_252, rfl⟩
theorem D_253 : Dc code 253 (.goto 4) 3 256 := ⟨at_253, rfl⟩
theorem D_256 : Dc code 256 (.iconst 0) 1 257 := ⟨at_256, rfl⟩
theorem D_257 : Dc code 257 (.if_icmp .ne 7) 3 260 := ⟨at_257, rfl⟩
theorem D_260 : Dc code 260 (.iconst 1) 1 261 := ⟨at_260, rfl⟩
theorem D_261 : Dc code 261 (.goto 4) 3 264 := ⟨at_261, rfl⟩
theorem D_264 : Dc code 264 (.iconst 0) 1 265 := ⟨at_264, rfl⟩
theorem D_265 : Dc code 265 (.istore 12) 2 267 := ⟨at_265, rfl⟩
theorem D_267 : Dc code 267 (.iload 12) 2 269 := ⟨at_267, rfl⟩
theorem D_269 : Dc code 269 (.ireturn) 1 270 := ⟨at_269, rfl⟩
set_option maxRecDepth 65536 in
set_option maxHeartbeats 40000000 in
theorem law_wp (l : Launch) (Z : State) (a0 : Array Value) (hw : ∀ d ∈ tables_1, d.before a0 Z = true) (a : Int32) (b : Int32) (s : Int32) (flag : Int32)  : Wp false l Z "com/example/prim_canon/primcanon/output/HeldTextIsEmptyPinLaw" "law" code maxLocals ret room_1 [] 0 0 0 #[.val (.int a), .val (.int b), .val (.int s), .val (.int flag), .unset, .unset, .unset, .unset, .unset, .unset, .unset, .unset, .unset] [] Q_law := by
  refine wp_iconst 4 D_0 (by decide) ?_
  refine wp_newarrayI (n := (4 : Int32)) (4) 4 D_1 rfl rfl rfl (hw _ (List.mem_of_getElem? (i := 0) rfl)) (by decide) (by decide) (by decide) (by decide) (by decide) (by decide) ?_
  intro a1
  show Wp false l Z "com/example/prim_canon/primcanon/output/HeldTextIsEmptyPinLaw" "law" code maxLocals ret room_1 [(a1, oA .char [(0 : Int32), (0 : Int32), (0 : Int32), (0 : Int32)])] 1 4 3 #[.val (.int a), .val (.int b), .val (.int s), .val (.int flag), .unset, .unset, .unset, .unset, .unset, .unset, .unset, .unset, .unset] [(.ref a1)] Q_law
  refine wp_astore #[.val (.int a), .val (.int b), .val (.int s), .val (.int flag), .val (.ref a1), .unset, .unset, .unset, .unset, .unset, .unset, .unset, .unset] D_3 rfl rfl ?_
  refine wp_aload D_5 rfl rfl ?_
  refine wp_iconst 0 D_7 (by decide) ?_
  refine wp_iload_n D_8 rfl ?_
  refine wp_sipush 255 D_9 (by decide) ?_
  refine wp_iand D_12 ?_
  refine wp_i2c D_13 ?_
  refine wp_castore (i := 0) (0) D_14 rfl (by decide) (by decide) (by first | decide | exact Nat.le_of_ble_eq_true rfl | simp) ?_
  show Wp false l Z "com/example/prim_canon/primcanon/output/HeldTextIsEmptyPinLaw" "law" code maxLocals ret room_1 [(a1, oA .char [(nar .char (a &&& (255 : Int32)).toUInt32.toUInt16.toUInt32.toInt32), (0 : Int32), (0 : Int32), (0 : Int32)])] 1 4 15 #[.val (.int a), .val (.int b), .val (.int s), .val (.int flag), .val (.ref a1), .unset, .unset, .unset, .unset, .unset, .unset, .unset, .unset] [] Q_law
  refine wp_aload D_15 rfl rfl ?_
  refine wp_iconst 1 D_17 (by decide) ?_
  refine wp_iload_n D_18 rfl ?_
  refine wp_sipush 255 D_19 (by decide) ?_
  refine wp_iand D_22 ?_
  refine wp_i2c D_23 ?_
  refine wp_castore (i := 0) (1) D_24 rfl (by decide) (by decide) (by first | decide | exact Nat.le_of_ble_eq_true rfl | simp) ?_
  show Wp false l Z "com/example/prim_canon/primcanon/output/HeldTextIsEmptyPinLaw" "law" code maxLocals ret room_1 [(a1, oA .char [(nar .char (a &&& (255 : Int32)).toUInt32.toUInt16.toUInt32.toInt32), (nar .char (b &&& (255 : Int32)).toUInt32.toUInt16.toUInt32.toInt32), (0 : Int32), (0 : Int32)])] 1 4 25 #[.val (.int a), .val (.int b), .val (.int s), .val (.int flag), .val (.ref a1), .unset, .unset, .unset, .unset, .unset, .unset, .unset, .unset] [] Q_law
  refine wp_aload D_25 rfl rfl ?_
  refine wp_iconst 2 D_27 (by decide) ?_
  refine wp_iload_n D_28 rfl ?_
  refine wp_sipush 255 D_29 (by decide) ?_
  refine wp_iand D_32 ?_
  refine wp_i2c D_33 ?_
  refine wp_castore (i := 0) (2) D_34 rfl (by decide) (by decide) (by first | decide | exact Nat.le_of_ble_eq_true rfl | simp) ?_
  show Wp false l Z "com/example/prim_canon/primcanon/output/HeldTextIsEmptyPinLaw" "law" code maxLocals ret room_1 [(a1, oA .char [(nar .char (a &&& (255 : Int32)).toUInt32.toUInt16.toUInt32.toInt32), (nar .char (b &&& (255 : Int32)).toUInt32.toUInt16.toUInt32.toInt32), (nar .char (s &&& (255 : Int32)).toUInt32.toUInt16.toUInt32.toInt32), (0 : Int32)])] 1 4 35 #[.val (.int a), .val (.int b), .val (.int s), .val (.int flag), .val (.ref a1), .unset, .unset, .unset, .unset, .unset, .unset, .unset, .unset] [] Q_law
  refine wp_aload D_35 rfl rfl ?_
  refine wp_iconst 3 D_37 (by decide) ?_
  refine wp_iload_n D_38 rfl ?_
  refine wp_sipush 255 D_39 (by decide) ?_
  refine wp_iand D_42 ?_
  refine wp_i2c D_43 ?_
  refine wp_castore (i := 0) (3) D_44 rfl (by decide) (by decide) (by first | decide | exact Nat.le_of_ble_eq_true rfl | simp) ?_
  show Wp false l Z "com/example/prim_canon/primcanon/output/HeldTextIsEmptyPinLaw" "law" code maxLocals ret room_1 [(a1, oA .char [(nar .char (a &&& (255 : Int32)).toUInt32.toUInt16.toUInt32.toInt32), (nar .char (b &&& (255 : Int32)).toUInt32.toUInt16.toUInt32.toInt32), (nar .char (s &&& (255 : Int32)).toUInt32.toUInt16.toUInt32.toInt32), (nar .char (flag &&& (255 : Int32)).toUInt32.toUInt16.toUInt32.toInt32)])] 1 4 45 #[.val (.int a), .val (.int b), .val (.int s), .val (.int flag), .val (.ref a1), .unset, .unset, .unset, .unset, .unset, .unset, .unset, .unset] [] Q_law
  refine wp_iload_n D_45 rfl ?_
  refine wp_iconst 3 D_46 (by decide) ?_
  refine wp_iand D_47 ?_
  generalize hg_x2 : (a &&& (3 : Int32)) = x2
  have hb_x2 : 0 ≤ x2.toInt ∧ x2.toInt ≤ 3 := by rw [← hg_x2]; exact own_mask3 _
  refine wp_istore #[.val (.int a), .val (.int b), .val (.int s), .val (.int flag), .val (.ref a1), .val (.int x2), .unset, .unset, .unset, .unset, .unset, .unset, .unset] D_48 rfl ?_
  refine wp_iload_n D_50 rfl ?_
  refine wp_ldcI D_51 (hw _ (List.mem_of_getElem? (i := 1) rfl)) ?_
  refine wp_iand D_53 ?_
  refine wp_iconst 5 D_54 (by decide) ?_
  refine wp_iload D_55 rfl ?_
  refine wp_isub D_57 ?_
  refine wp_irem D_58 (own_nz _ hb_x2) ?_
  generalize hg_x3 : ((s &&& (2147483647 : Int32)) % ((5 : Int32) - x2)) = x3
  have hi_x3 : 0 ≤ x3.toInt ∧ x3.toInt + x2.toInt ≤ 4 := by rw [← hg_x3]; exact own_idx _ _ (own_pos _) hb_x2
  refine wp_istore #[.val (.int a), .val (.int b), .val (.int s), .val (.int flag), .val (.ref a1), .val (.int x2), .val (.int x3), .unset, .unset, .unset, .unset, .unset, .unset] D_59 rfl ?_
  refine wp_iload_n D_61 rfl ?_
  refine wp_iconst 3 D_62 (by decide) ?_
  refine wp_iand D_63 ?_
  generalize hg_x4 : (b &&& (3 : Int32)) = x4
  have hb_x4 : 0 ≤ x4.toInt ∧ x4.toInt ≤ 3 := by rw [← hg_x4]; exact own_mask3 _
  refine wp_istore #[.val (.int a), .val (.int b), .val (.int s), .val (.int flag), .val (.ref a1), .val (.int x2), .val (.int x3), .val (.int x4), .unset, .unset, .unset, .unset, .unset] D_64 rfl ?_
  refine wp_iload_n D_66 rfl ?_
  refine wp_bipush 8 D_67 (by decide) ?_
  refine wp_iushr D_69 ?_
  refine wp_iconst 5 D_70 (by decide) ?_
  refine wp_iload D_71 rfl ?_
  refine wp_isub D_73 ?_
  refine wp_irem D_74 (own_nz _ hb_x4) ?_
  generalize hg_x5 : ((XT.ushr s (8 : Int32)) % ((5 : Int32) - x4)) = x5
  have hi_x5 : 0 ≤ x5.toInt ∧ x5.toInt + x4.toInt ≤ 4 := by rw [← hg_x5]; exact own_idx _ _ (own_us8 _) hb_x4
  refine wp_istore #[.val (.int a), .val (.int b), .val (.int s), .val (.int flag), .val (.ref a1), .val (.int x2), .val (.int x3), .val (.int x4), .val (.int x5), .unset, .unset, .unset, .unset] D_75 rfl ?_
  refine wp_iload_n D_77 rfl ?_
  refine wp_iconst 1 D_78 (by decide) ?_
  refine wp_iushr D_79 ?_
  refine wp_iconst 3 D_80 (by decide) ?_
  refine wp_iand D_81 ?_
  generalize hg_x6 : ((XT.ushr flag (1 : Int32)) &&& (3 : Int32)) = x6
  have hb_x6 : 0 ≤ x6.toInt ∧ x6.toInt ≤ 3 := by rw [← hg_x6]; exact own_mask3 _
  refine wp_istore #[.val (.int a), .val (.int b), .val (.int s), .val (.int flag), .val (.ref a1), .val (.int x2), .val (.int x3), .val (.int x4), .val (.int x5), .val (.int x6), .unset, .unset, .unset] D_82 rfl ?_
  refine wp_iload_n D_84 rfl ?_
  refine wp_iconst 3 D_85 (by decide) ?_
  refine wp_iushr D_86 ?_
  refine wp_iconst 5 D_87 (by decide) ?_
  refine wp_iload D_88 rfl ?_
  refine wp_isub D_90 ?_
  refine wp_irem D_91 (own_nz _ hb_x6) ?_
  generalize hg_x7 : ((XT.ushr flag (3 : Int32)) % ((5 : Int32) - x6)) = x7
  have hi_x7 : 0 ≤ x7.toInt ∧ x7.toInt + x6.toInt ≤ 4 := by rw [← hg_x7]; exact own_idx _ _ (own_us3 _) hb_x6
  refine wp_istore #[.val (.int a), .val (.int b), .val (.int s), .val (.int flag), .val (.ref a1), .val (.int x2), .val (.int x3), .val (.int x4), .val (.int x5), .val (.int x6), .val (.int x7), .unset, .unset] D_92 rfl ?_
  refine wp_new sg_1 [(.null), (.long (0 : Int64)), (.int (0 : Int32)), (.null)] D_94 (hw _ (List.mem_of_getElem? (i := 2) rfl)) (hw _ (List.mem_of_getElem? (i := 3) rfl)) (hw _ (List.mem_of_getElem? (i := 4) rfl)) (laid_sg_1 l Z a0 hw) (by decide) dfl_sg_1 (by decide) (by decide) ?_
  intro a8
  show Wp false l Z "com/example/prim_canon/primcanon/output/HeldTextIsEmptyPinLaw" "law" code maxLocals ret room_1 [(a8, oI "com/example/prim_canon/primcanon/output/HeldText" sg_1 [(.null), (.long (0 : Int64)), (.int (0 : Int32)), (.null)]), (a1, oA .char [(nar .char (a &&& (255 : Int32)).toUInt32.toUInt16.toUInt32.toInt32), (nar .char (b &&& (255 : Int32)).toUInt32.toUInt16.toUInt32.toInt32), (nar .char (s &&& (255 : Int32)).toUInt32.toUInt16.toUInt32.toInt32), (nar .char (flag &&& (255 : Int32)).toUInt32.toUInt16.toUInt32.toInt32)])] 2 10 97 #[.val (.int a), .val (.int b), .val (.int s), .val (.int flag), .val (.ref a1), .val (.int x2), .val (.int x3), .val (.int x4), .val (.int x5), .val (.int x6), .val (.int x7), .unset, .unset] [(.ref a8)] Q_law
  refine wp_dup D_97 rfl ?_
  refine wp_init (c_ini l Z a0 hw a8 [(a1, oA .char [(nar .char (a &&& (255 : Int32)).toUInt32.toUInt16.toUInt32.toInt32), (nar .char (b &&& (255 : Int32)).toUInt32.toUInt16.toUInt32.toInt32), (nar .char (s &&& (255 : Int32)).toUInt32.toUInt16.toUInt32.toInt32), (nar .char (flag &&& (255 : Int32)).toUInt32.toUInt16.toUInt32.toInt32)])]) D_98 rfl (hw _ (List.mem_of_getElem? (i := 5) rfl)) (hw _ (List.mem_of_getElem? (i := 6) rfl)) (hw _ (List.mem_of_getElem? (i := 4) rfl)) (hw _ (List.mem_of_getElem? (i := 7) rfl)) (by decide) pd_2 rfl rfl rfl (Nat.le_of_ble_eq_true rfl) (Nat.le_of_ble_eq_true rfl) (Nat.le_of_ble_eq_true rfl) (Nat.le_of_ble_eq_true rfl) ?_
  rintro _ _ ⟨rfl, m9, rfl⟩
  show Wp false l Z "com/example/prim_canon/primcanon/output/HeldTextIsEmptyPinLaw" "law" code maxLocals ret room_1 [(m9, oA .char (List.replicate 256 0)), (a8, oI "com/example/prim_canon/primcanon/output/HeldText" sg_1 [(.ref m9), (.long (0 : Int64)), (.int (0 : Int32)), (.null)]), (a1, oA .char [(nar .char (a &&& (255 : Int32)).toUInt32.toUInt16.toUInt32.toInt32), (nar .char (b &&& (255 : Int32)).toUInt32.toUInt16.toUInt32.toInt32), (nar .char (s &&& (255 : Int32)).toUInt32.toUInt16.toUInt32.toInt32), (nar .char (flag &&& (255 : Int32)).toUInt32.toUInt16.toUInt32.toInt32)])] 3 266 101 #[.val (.int a), .val (.int b), .val (.int s), .val (.int flag), .val (.ref a1), .val (.int x2), .val (.int x3), .val (.int x4), .val (.int x5), .val (.int x6), .val (.int x7), .unset, .unset] [(.ref a8)] Q_law
  obtain ⟨ys10, hl_ys10, he_ys10⟩ : ∃ zs : List Int32, zs.length = 256 ∧ zs = List.replicate 256 0 := ⟨_, List.length_replicate, rfl⟩
  rw [← he_ys10]
  show Wp false l Z "com/example/prim_canon/primcanon/output/HeldTextIsEmptyPinLaw" "law" code maxLocals ret room_1 [(m9, oA .char ys10), (a8, oI "com/example/prim_canon/primcanon/output/HeldText" sg_1 [(.ref m9), (.long (0 : Int64)), (.int (0 : Int32)), (.null)]), (a1, oA .char [(nar .char (a &&& (255 : Int32)).toUInt32.toUInt16.toUInt32.toInt32), (nar .char (b &&& (255 : Int32)).toUInt32.toUInt16.toUInt32.toInt32), (nar .char (s &&& (255 : Int32)).toUInt32.toUInt16.toUInt32.toInt32), (nar .char (flag &&& (255 : Int32)).toUInt32.toUInt16.toUInt32.toInt32)])] 3 266 101 #[.val (.int a), .val (.int b), .val (.int s), .val (.int flag), .val (.ref a1), .val (.int x2), .val (.int x3), .val (.int x4), .val (.int x5), .val (.int x6), .val (.int x7), .unset, .unset] [(.ref a8)] Q_law
  refine wp_astore #[.val (.int a), .val (.int b), .val (.int s), .val (.int flag), .val (.ref a1), .val (.int x2), .val (.int x3), .val (.int x4), .val (.int x5), .val (.int x6), .val (.int x7), .val (.ref a8), .unset] D_101 rfl rfl ?_
  refine wp_aload D_103 rfl rfl ?_
  refine Wp.pick [1, 0, 2] (by decide) ?_
  show Wp false l Z "com/example/prim_canon/primcanon/output/HeldTextIsEmptyPinLaw" "law" code maxLocals ret room_1 [(a8, oI "com/example/prim_canon/primcanon/output/HeldText" sg_1 [(.ref m9), (.long (0 : Int64)), (.int (0 : Int32)), (.null)]), (m9, oA .char ys10), (a1, oA .char [(nar .char (a &&& (255 : Int32)).toUInt32.toUInt16.toUInt32.toInt32), (nar .char (b &&& (255 : Int32)).toUInt32.toUInt16.toUInt32.toInt32), (nar .char (s &&& (255 : Int32)).toUInt32.toUInt16.toUInt32.toInt32), (nar .char (flag &&& (255 : Int32)).toUInt32.toUInt16.toUInt32.toInt32)])] 3 266 105 #[.val (.int a), .val (.int b), .val (.int s), .val (.int flag), .val (.ref a1), .val (.int x2), .val (.int x3), .val (.int x4), .val (.int x5), .val (.int x6), .val (.int x7), .val (.ref a8), .unset] [(.ref a8)] Q_law
  refine wp_virtual (c_emp l Z a0 hw a8 m9 (0 : Int32) [(m9, oA .char ys10), (a1, oA .char [(nar .char (a &&& (255 : Int32)).toUInt32.toUInt16.toUInt32.toInt32), (nar .char (b &&& (255 : Int32)).toUInt32.toUInt16.toUInt32.toInt32), (nar .char (s &&& (255 : Int32)).toUInt32.toUInt16.toUInt32.toInt32), (nar .char (flag &&& (255 : Int32)).toUInt32.toUInt16.toUInt32.toInt32)])]) (exa_new (i := 0) rfl) D_105 (hw _ (List.mem_of_getElem? (i := 13) rfl)) (hw _ (List.mem_of_getElem? (i := 14) rfl)) (hw _ (List.mem_of_getElem? (i := 16) rfl)) (hw _ (List.mem_of_getElem? (i := 16) rfl)) (hw _ (List.mem_of_getElem? (i := 15) rfl)) (hw _ (List.mem_of_getElem? (i := 4) rfl)) (hw _ (List.mem_of_getElem? (i := 17) rfl)) (by decide) pd_3 rfl rfl rfl (Nat.le_of_ble_eq_true rfl) (Nat.le_of_ble_eq_true rfl) (Nat.le_of_ble_eq_true rfl) (Nat.le_of_ble_eq_true rfl) ?_
  rintro _ _ ⟨rfl, rfl⟩
  rw [if_pos (by decide)]
  show Wp false l Z "com/example/prim_canon/primcanon/output/HeldTextIsEmptyPinLaw" "law" code maxLocals ret room_1 [(a8, oI "com/example/prim_canon/primcanon/output/HeldText" sg_1 [(.ref m9), (.long (0 : Int64)), (.int (0 : Int32)), (.null)]), (m9, oA .char ys10), (a1, oA .char [(nar .char (a &&& (255 : Int32)).toUInt32.toUInt16.toUInt32.toInt32), (nar .char (b &&& (255 : Int32)).toUInt32.toUInt16.toUInt32.toInt32), (nar .char (s &&& (255 : Int32)).toUInt32.toUInt16.toUInt32.toInt32), (nar .char (flag &&& (255 : Int32)).toUInt32.toUInt16.toUInt32.toInt32)])] 3 266 108 #[.val (.int a), .val (.int b), .val (.int s), .val (.int flag), .val (.ref a1), .val (.int x2), .val (.int x3), .val (.int x4), .val (.int x5), .val (.int x6), .val (.int x7), .val (.ref a8), .unset] [(.int (1 : Int32))] Q_law
  refine wp_istore #[.val (.int a), .val (.int b), .val (.int s), .val (.int flag), .val (.ref a1), .val (.int x2), .val (.int x3), .val (.int x4), .val (.int x5), .val (.int x6), .val (.int x7), .val (.ref a8), .val (.int (1 : Int32))] D_108 rfl ?_
  refine wp_aload D_110 rfl rfl ?_
  refine wp_aload D_112 rfl rfl ?_
  refine wp_iload D_114 rfl ?_
  refine wp_iload D_116 rfl ?_
  refine wp_virtual (c_app l Z a0 hw a8 a1 m9 x3 x2 (0 : Int32) [(nar .char (a &&& (255 : Int32)).toUInt32.toUInt16.toUInt32.toInt32), (nar .char (b &&& (255 : Int32)).toUInt32.toUInt16.toUInt32.toInt32), (nar .char (s &&& (255 : Int32)).toUInt32.toUInt16.toUInt32.toInt32), (nar .char (flag &&& (255 : Int32)).toUInt32.toUInt16.toUInt32.toInt32)] ys10 [] hl_ys10 rfl (by first | decide | (simp only [Int32.reduceToInt] at *; omega) | omega) (by first | decide | (simp only [Int32.reduceToInt] at *; omega) | omega) (by first | decide | (simp only [Int32.reduceToInt] at *; omega) | omega) (by first | decide | (simp only [Int32.reduceToInt] at *; omega) | omega) (by first | decide | (simp only [Int32.reduceToInt] at *; omega) | omega)) (exa_new (i := 0) rfl) D_118 (hw _ (List.mem_of_getElem? (i := 22) rfl)) (hw _ (List.mem_of_getElem? (i := 23) rfl)) (hw _ (List.mem_of_getElem? (i := 25) rfl)) (hw _ (List.mem_of_getElem? (i := 25) rfl)) (hw _ (List.mem_of_getElem? (i := 24) rfl)) (hw _ (List.mem_of_getElem? (i := 4) rfl)) (hw _ (List.mem_of_getElem? (i := 26) rfl)) (by decide) pd_4 rfl rfl rfl (Nat.le_of_ble_eq_true rfl) (Nat.le_of_ble_eq_true rfl) (Nat.le_of_ble_eq_true rfl) (Nat.le_of_ble_eq_true rfl) ?_
  rintro _ _ ⟨rfl, ys11, hl_ys11, rfl⟩
  show Wp false l Z "com/example/prim_canon/primcanon/output/HeldTextIsEmptyPinLaw" "law" code maxLocals ret room_1 [(a8, oI "com/example/prim_canon/primcanon/output/HeldText" sg_1 [(.ref m9), (.long (0 : Int64)), (.int ((0 : Int32) + x2)), (.null)]), (m9, oA .char ys11), (a1, oA .char [(nar .char (a &&& (255 : Int32)).toUInt32.toUInt16.toUInt32.toInt32), (nar .char (b &&& (255 : Int32)).toUInt32.toUInt16.toUInt32.toInt32), (nar .char (s &&& (255 : Int32)).toUInt32.toUInt16.toUInt32.toInt32), (nar .char (flag &&& (255 : Int32)).toUInt32.toUInt16.toUInt32.toInt32)])] 3 266 121 #[.val (.int a), .val (.int b), .val (.int s), .val (.int flag), .val (.ref a1), .val (.int x2), .val (.int x3), .val (.int x4), .val (.int x5), .val (.int x6), .val (.int x7), .val (.ref a8), .val (.int (1 : Int32))] [] Q_law
  have hs_q12 := own_sum (0 : Int32) x2 (by first | decide | (simp only [Int32.reduceToInt] at *; omega) | omega) (by first | decide | (simp only [Int32.reduceToInt] at *; omega) | omega) (by first | decide | (simp only [Int32.reduceToInt] at *; omega) | omega)
  generalize hg_q12 : ((0 : Int32) + x2) = q12 at *
  show Wp false l Z "com/example/prim_canon/primcanon/output/HeldTextIsEmptyPinLaw" "law" code maxLocals ret room_1 [(a8, oI "com/example/prim_canon/primcanon/output/HeldText" sg_1 [(.ref m9), (.long (0 : Int64)), (.int q12), (.null)]), (m9, oA .char ys11), (a1, oA .char [(nar .char (a &&& (255 : Int32)).toUInt32.toUInt16.toUInt32.toInt32), (nar .char (b &&& (255 : Int32)).toUInt32.toUInt16.toUInt32.toInt32), (nar .char (s &&& (255 : Int32)).toUInt32.toUInt16.toUInt32.toInt32), (nar .char (flag &&& (255 : Int32)).toUInt32.toUInt16.toUInt32.toInt32)])] 3 266 121 #[.val (.int a), .val (.int b), .val (.int s), .val (.int flag), .val (.ref a1), .val (.int x2), .val (.int x3), .val (.int x4), .val (.int x5), .val (.int x6), .val (.int x7), .val (.ref a8), .val (.int (1 : Int32))] [] Q_law
  refine wp_iload D_121 rfl ?_
  refine wp_if_eq D_123 (pc'' := 148) ⟨by decide, by decide⟩ (fun h13 => by exact absurd h13 (by decide)) (fun h13 => ?_)
  refine wp_aload D_126 rfl rfl ?_
  refine wp_virtual (c_emp l Z a0 hw a8 m9 q12 [(m9, oA .char ys11), (a1, oA .char [(nar .char (a &&& (255 : Int32)).toUInt32.toUInt16.toUInt32.toInt32), (nar .char (b &&& (255 : Int32)).toUInt32.toUInt16.toUInt32.toInt32), (nar .char (s &&& (255 : Int32)).toUInt32.toUInt16.toUInt32.toInt32), (nar .char (flag &&& (255 : Int32)).toUInt32.toUInt16.toUInt32.toInt32)])]) (exa_new (i := 0) rfl) D_128 (hw _ (List.mem_of_getElem? (i := 13) rfl)) (hw _ (List.mem_of_getElem? (i := 14) rfl)) (hw _ (List.mem_of_getElem? (i := 16) rfl)) (hw _ (List.mem_of_getElem? (i := 16) rfl)) (hw _ (List.mem_of_getElem? (i := 15) rfl)) (hw _ (List.mem_of_getElem? (i := 4) rfl)) (hw _ (List.mem_of_getElem? (i := 17) rfl)) (by decide) pd_3 rfl rfl rfl (Nat.le_of_ble_eq_true rfl) (Nat.le_of_ble_eq_true rfl) (Nat.le_of_ble_eq_true rfl) (Nat.le_of_ble_eq_true rfl) ?_
  rintro _ _ ⟨rfl, rfl⟩
  by_cases hp14 : q12.toInt = 0
  · rw [if_pos hp14]
    show Wp false l Z "com/example/prim_canon/primcanon/output/HeldTextIsEmptyPinLaw" "law" code maxLocals ret room_1 [(a8, oI "com/example/prim_canon/primcanon/output/HeldText" sg_1 [(.ref m9), (.long (0 : Int64)), (.int q12), (.null)]), (m9, oA .char ys11), (a1, oA .char [(nar .char (a &&& (255 : Int32)).toUInt32.toUInt16.toUInt32.toInt32), (nar .char (b &&& (255 : Int32)).toUInt32.toUInt16.toUInt32.toInt32), (nar .char (s &&& (255 : Int32)).toUInt32.toUInt16.toUInt32.toInt32), (nar .char (flag &&& (255 : Int32)).toUInt32.toUInt16.toUInt32.toInt32)])] 3 266 131 #[.val (.int a), .val (.int b), .val (.int s), .val (.int flag), .val (.ref a1), .val (.int x2), .val (.int x3), .val (.int x4), .val (.int x5), .val (.int x6), .val (.int x7), .val (.ref a8), .val (.int (1 : Int32))] [(.int (1 : Int32))] Q_law
    refine wp_iload D_131 rfl ?_
    refine wp_if_ne D_133 (pc'' := 140) ⟨by decide, by decide⟩ (fun h15 => by exfalso; (simp only [Int32.lt_iff_toInt_lt, Int32.le_iff_toInt_le, ← Int32.toInt_inj, Int32.reduceToInt, Int64.lt_iff_toInt_lt, ← Int64.toInt_inj, Int64.reduceToInt] at *; omega)) (fun h15 => ?_)
    refine wp_iconst 1 D_136 (by decide) ?_
    refine wp_goto D_137 (pc'' := 141) ⟨by decide, by decide⟩ ?_
    refine wp_icmp_ne D_141 (pc'' := 148) ⟨by decide, by decide⟩ (fun h16 => by exact absurd h16 (by decide)) (fun h16 => ?_)
    refine wp_iconst 1 D_144 (by decide) ?_
    refine wp_goto D_145 (pc'' := 149) ⟨by decide, by decide⟩ ?_
    refine wp_istore #[.val (.int a), .val (.int b), .val (.int s), .val (.int flag), .val (.ref a1), .val (.int x2), .val (.int x3), .val (.int x4), .val (.int x5), .val (.int x6), .val (.int x7), .val (.ref a8), .val (.int (1 : Int32))] D_149 rfl ?_
    refine wp_aload D_151 rfl rfl ?_
    refine wp_aload D_153 rfl rfl ?_
    refine wp_iload D_155 rfl ?_
    refine wp_iload D_157 rfl ?_
    refine wp_virtual (c_app l Z a0 hw a8 a1 m9 x5 x4 q12 [(nar .char (a &&& (255 : Int32)).toUInt32.toUInt16.toUInt32.toInt32), (nar .char (b &&& (255 : Int32)).toUInt32.toUInt16.toUInt32.toInt32), (nar .char (s &&& (255 : Int32)).toUInt32.toUInt16.toUInt32.toInt32), (nar .char (flag &&& (255 : Int32)).toUInt32.toUInt16.toUInt32.toInt32)] ys11 [] hl_ys11 rfl (by first | decide | (simp only [Int32.reduceToInt] at *; omega) | omega) (by first | decide | (simp only [Int32.reduceToInt] at *; omega) | omega) (by first | decide | (simp only [Int32.reduceToInt] at *; omega) | omega) (by first | decide | (simp only [Int32.reduceToInt] at *; omega) | omega) (by first | decide | (simp only [Int32.reduceToInt] at *; omega) | omega)) (exa_new (i := 0) rfl) D_159 (hw _ (List.mem_of_getElem? (i := 22) rfl)) (hw _ (List.mem_of_getElem? (i := 23) rfl)) (hw _ (List.mem_of_getElem? (i := 25) rfl)) (hw _ (List.mem_of_getElem? (i := 25) rfl)) (hw _ (List.mem_of_getElem? (i := 24) rfl)) (hw _ (List.mem_of_getElem? (i := 4) rfl)) (hw _ (List.mem_of_getElem? (i := 26) rfl)) (by decide) pd_4 rfl rfl rfl (Nat.le_of_ble_eq_true rfl) (Nat.le_of_ble_eq_true rfl) (Nat.le_of_ble_eq_true rfl) (Nat.le_of_ble_eq_true rfl) ?_
    rintro _ _ ⟨rfl, ys17, hl_ys17, rfl⟩
    show Wp false l Z "com/example/prim_canon/primcanon/output/HeldTextIsEmptyPinLaw" "law" code maxLocals ret room_1 [(a8, oI "com/example/prim_canon/primcanon/output/HeldText" sg_1 [(.ref m9), (.long (0 : Int64)), (.int (q12 + x4)), (.null)]), (m9, oA .char ys17), (a1, oA .char [(nar .char (a &&& (255 : Int32)).toUInt32.toUInt16.toUInt32.toInt32), (nar .char (b &&& (255 : Int32)).toUInt32.toUInt16.toUInt32.toInt32), (nar .char (s &&& (255 : Int32)).toUInt32.toUInt16.toUInt32.toInt32), (nar .char (flag &&& (255 : Int32)).toUInt32.toUInt16.toUInt32.toInt32)])] 3 266 162 #[.val (.int a), .val (.int b), .val (.int s), .val (.int flag), .val (.ref a1), .val (.int x2), .val (.int x3), .val (.int x4), .val (.int x5), .val (.int x6), .val (.int x7), .val (.ref a8), .val (.int (1 : Int32))] [] Q_law
    have hs_q18 := own_sum q12 x4 (by first | decide | (simp only [Int32.reduceToInt] at *; omega) | omega) (by first | decide | (simp only [Int32.reduceToInt] at *; omega) | omega) (by first | decide | (simp only [Int32.reduceToInt] at *; omega) | omega)
    generalize hg_q18 : (q12 + x4) = q18 at *
    show Wp false l Z "com/example/prim_canon/primcanon/output/HeldTextIsEmptyPinLaw" "law" code maxLocals ret room_1 [(a8, oI "com/example/prim_canon/primcanon/output/HeldText" sg_1 [(.ref m9), (.long (0 : Int64)), (.int q18), (.null)]), (m9, oA .char ys17), (a1, oA .char [(nar .char (a &&& (255 : Int32)).toUInt32.toUInt16.toUInt32.toInt32), (nar .char (b &&& (255 : Int32)).toUInt32.toUInt16.toUInt32.toInt32), (nar .char (s &&& (255 : Int32)).toUInt32.toUInt16.toUInt32.toInt32), (nar .char (flag &&& (255 : Int32)).toUInt32.toUInt16.toUInt32.toInt32)])] 3 266 162 #[.val (.int a), .val (.int b), .val (.int s), .val (.int flag), .val (.ref a1), .val (.int x2), .val (.int x3), .val (.int x4), .val (.int x5), .val (.int x6), .val (.int x7), .val (.ref a8), .val (.int (1 : Int32))] [] Q_law
    refine wp_iload D_162 rfl ?_
    refine wp_if_eq D_164 (pc'' := 192) ⟨by decide, by decide⟩ (fun h19 => by exact absurd h19 (by decide)) (fun h19 => ?_)
    refine wp_aload D_167 rfl rfl ?_
    refine wp_virtual (c_emp l Z a0 hw a8 m9 q18 [(m9, oA .char ys17), (a1, oA .char [(nar .char (a &&& (255 : Int32)).toUInt32.toUInt16.toUInt32.toInt32), (nar .char (b &&& (255 : Int32)).toUInt32.toUInt16.toUInt32.toInt32), (nar .char (s &&& (255 : Int32)).toUInt32.toUInt16.toUInt32.toInt32), (nar .char (flag &&& (255 : Int32)).toUInt32.toUInt16.toUInt32.toInt32)])]) (exa_new (i := 0) rfl) D_169 (hw _ (List.mem_of_getElem? (i := 13) rfl)) (hw _ (List.mem_of_getElem? (i := 14) rfl)) (hw _ (List.mem_of_getElem? (i := 16) rfl)) (hw _ (List.mem_of_getElem? (i := 16) rfl)) (hw _ (List.mem_of_getElem? (i := 15) rfl)) (hw _ (List.mem_of_getElem? (i := 4) rfl)) (hw _ (List.mem_of_getElem? (i := 17) rfl)) (by decide) pd_3 rfl rfl rfl (Nat.le_of_ble_eq_true rfl) (Nat.le_of_ble_eq_true rfl) (Nat.le_of_ble_eq_true rfl) (Nat.le_of_ble_eq_true rfl) ?_
    rintro _ _ ⟨rfl, rfl⟩
    by_cases hp20 : q18.toInt = 0
    · rw [if_pos hp20]
      show Wp false l Z "com/example/prim_canon/primcanon/output/HeldTextIsEmptyPinLaw" "law" code maxLocals ret room_1 [(a8, oI "com/example/prim_canon/primcanon/output/HeldText" sg_1 [(.ref m9), (.long (0 : Int64)), (.int q18), (.null)]), (m9, oA .char ys17), (a1, oA .char [(nar .char (a &&& (255 : Int32)).toUInt32.toUInt16.toUInt32.toInt32), (nar .char (b &&& (255 : Int32)).toUInt32.toUInt16.toUInt32.toInt32), (nar .char (s &&& (255 : Int32)).toUInt32.toUInt16.toUInt32.toInt32), (nar .char (flag &&& (255 : Int32)).toUInt32.toUInt16.toUInt32.toInt32)])] 3 266 172 #[.val (.int a), .val (.int b), .val (.int s), .val (.int flag), .val (.ref a1), .val (.int x2), .val (.int x3), .val (.int x4), .val (.int x5), .val (.int x6), .val (.int x7), .val (.ref a8), .val (.int (1 : Int32))] [(.int (1 : Int32))] Q_law
      refine wp_iload D_172 rfl ?_
      refine wp_iload D_174 rfl ?_
      refine wp_iadd D_176 ?_
      have hs177 := own_sum x2 x4 (by omega) (by omega) (by omega)
      refine wp_if_ne D_177 (pc'' := 184) ⟨by decide, by decide⟩ (fun h21 => by exfalso; (simp only [Int32.lt_iff_toInt_lt, Int32.le_iff_toInt_le, ← Int32.toInt_inj, Int32.reduceToInt, Int64.lt_iff_toInt_lt, ← Int64.toInt_inj, Int64.reduceToInt] at *; omega)) (fun h21 => ?_)
      refine wp_iconst 1 D_180 (by decide) ?_
      refine wp_goto D_181 (pc'' := 185) ⟨by decide, by decide⟩ ?_
      refine wp_icmp_ne D_185 (pc'' := 192) ⟨by decide, by decide⟩ (fun h22 => by exact absurd h22 (by decide)) (fun h22 => ?_)
      refine wp_iconst 1 D_188 (by decide) ?_
      refine wp_goto D_189 (pc'' := 193) ⟨by decide, by decide⟩ ?_
      refine wp_istore #[.val (.int a), .val (.int b), .val (.int s), .val (.int flag), .val (.ref a1), .val (.int x2), .val (.int x3), .val (.int x4), .val (.int x5), .val (.int x6), .val (.int x7), .val (.ref a8), .val (.int (1 : Int32))] D_193 rfl ?_
      refine wp_iload_n D_195 rfl ?_
      refine wp_iconst 1 D_196 (by decide) ?_
      refine wp_iand D_197 ?_
      refine wp_if_eq D_198 (pc'' := 267) ⟨by decide, by decide⟩ (fun h23 => ?_) (fun h23 => ?_)
      · skip
        refine wp_iload D_267 rfl ?_
        refine wp_ireturnN D_269 rfl (by simp) (by decide) (by decide) ?_
        exact rfl
      · skip
        refine wp_aload D_201 rfl rfl ?_
        refine wp_virtual (c_clr l Z a0 hw a8 m9 q18 [(m9, oA .char ys17), (a1, oA .char [(nar .char (a &&& (255 : Int32)).toUInt32.toUInt16.toUInt32.toInt32), (nar .char (b &&& (255 : Int32)).toUInt32.toUInt16.toUInt32.toInt32), (nar .char (s &&& (255 : Int32)).toUInt32.toUInt16.toUInt32.toInt32), (nar .char (flag &&& (255 : Int32)).toUInt32.toUInt16.toUInt32.toInt32)])]) (exa_new (i := 0) rfl) D_203 (hw _ (List.mem_of_getElem? (i := 32) rfl)) (hw _ (List.mem_of_getElem? (i := 33) rfl)) (hw _ (List.mem_of_getElem? (i := 35) rfl)) (hw _ (List.mem_of_getElem? (i := 35) rfl)) (hw _ (List.mem_of_getElem? (i := 34) rfl)) (hw _ (List.mem_of_getElem? (i := 4) rfl)) (hw _ (List.mem_of_getElem? (i := 36) rfl)) (by decide) pd_2 rfl rfl rfl (Nat.le_of_ble_eq_true rfl) (Nat.le_of_ble_eq_true rfl) (Nat.le_of_ble_eq_true rfl) (Nat.le_of_ble_eq_true rfl) ?_
        rintro _ _ ⟨rfl, rfl⟩
        show Wp false l Z "com/example/prim_canon/primcanon/output/HeldTextIsEmptyPinLaw" "law" code maxLocals ret room_1 [(a8, oI "com/example/prim_canon/primcanon/output/HeldText" sg_1 [(.ref m9), (.long (0 : Int64)), (.int (0 : Int32)), (.null)]), (m9, oA .char ys17), (a1, oA .char [(nar .char (a &&& (255 : Int32)).toUInt32.toUInt16.toUInt32.toInt32), (nar .char (b &&& (255 : Int32)).toUInt32.toUInt16.toUInt32.toInt32), (nar .char (s &&& (255 : Int32)).toUInt32.toUInt16.toUInt32.toInt32), (nar .char (flag &&& (255 : Int32)).toUInt32.toUInt16.toUInt32.toInt32)])] 3 266 206 #[.val (.int a), .val (.int b), .val (.int s), .val (.int flag), .val (.ref a1), .val (.int x2), .val (.int x3), .val (.int x4), .val (.int x5), .val (.int x6), .val (.int x7), .val (.ref a8), .val (.int (1 : Int32))] [] Q_law
        refine wp_iload D_206 rfl ?_
        refine wp_if_eq D_208 (pc'' := 223) ⟨by decide, by decide⟩ (fun h24 => by exact absurd h24 (by decide)) (fun h24 => ?_)
        refine wp_aload D_211 rfl rfl ?_
        refine wp_virtual (c_emp l Z a0 hw a8 m9 (0 : Int32) [(m9, oA .char ys17), (a1, oA .char [(nar .char (a &&& (255 : Int32)).toUInt32.toUInt16.toUInt32.toInt32), (nar .char (b &&& (255 : Int32)).toUInt32.toUInt16.toUInt32.toInt32), (nar .char (s &&& (255 : Int32)).toUInt32.toUInt16.toUInt32.toInt32), (nar .char (flag &&& (255 : Int32)).toUInt32.toUInt16.toUInt32.toInt32)])]) (exa_new (i := 0) rfl) D_213 (hw _ (List.mem_of_getElem? (i := 13) rfl)) (hw _ (List.mem_of_getElem? (i := 14) rfl)) (hw _ (List.mem_of_getElem? (i := 16) rfl)) (hw _ (List.mem_of_getElem? (i := 16) rfl)) (hw _ (List.mem_of_getElem? (i := 15) rfl)) (hw _ (List.mem_of_getElem? (i := 4) rfl)) (hw _ (List.mem_of_getElem? (i := 17) rfl)) (by decide) pd_3 rfl rfl rfl (Nat.le_of_ble_eq_true rfl) (Nat.le_of_ble_eq_true rfl) (Nat.le_of_ble_eq_true rfl) (Nat.le_of_ble_eq_true rfl) ?_
        rintro _ _ ⟨rfl, rfl⟩
        rw [if_pos (by decide)]
        show Wp false l Z "com/example/prim_canon/primcanon/output/HeldTextIsEmptyPinLaw" "law" code maxLocals ret room_1 [(a8, oI "com/example/prim_canon/primcanon/output/HeldText" sg_1 [(.ref m9), (.long (0 : Int64)), (.int (0 : Int32)), (.null)]), (m9, oA .char ys17), (a1, oA .char [(nar .char (a &&& (255 : Int32)).toUInt32.toUInt16.toUInt32.toInt32), (nar .char (b &&& (255 : Int32)).toUInt32.toUInt16.toUInt32.toInt32), (nar .char (s &&& (255 : Int32)).toUInt32.toUInt16.toUInt32.toInt32), (nar .char (flag &&& (255 : Int32)).toUInt32.toUInt16.toUInt32.toInt32)])] 3 266 216 #[.val (.int a), .val (.int b), .val (.int s), .val (.int flag), .val (.ref a1), .val (.int x2), .val (.int x3), .val (.int x4), .val (.int x5), .val (.int x6), .val (.int x7), .val (.ref a8), .val (.int (1 : Int32))] [(.int (1 : Int32))] Q_law
        refine wp_if_eq D_216 (pc'' := 223) ⟨by decide, by decide⟩ (fun h25 => by exact absurd h25 (by decide)) (fun h25 => ?_)
        refine wp_iconst 1 D_219 (by decide) ?_
        refine wp_goto D_220 (pc'' := 224) ⟨by decide, by decide⟩ ?_
        refine wp_istore #[.val (.int a), .val (.int b), .val (.int s), .val (.int flag), .val (.ref a1), .val (.int x2), .val (.int x3), .val (.int x4), .val (.int x5), .val (.int x6), .val (.int x7), .val (.ref a8), .val (.int (1 : Int32))] D_224 rfl ?_
        refine wp_aload D_226 rfl rfl ?_
        refine wp_aload D_228 rfl rfl ?_
        refine wp_iload D_230 rfl ?_
        refine wp_iload D_232 rfl ?_
        refine wp_virtual (c_app l Z a0 hw a8 a1 m9 x7 x6 (0 : Int32) [(nar .char (a &&& (255 : Int32)).toUInt32.toUInt16.toUInt32.toInt32), (nar .char (b &&& (255 : Int32)).toUInt32.toUInt16.toUInt32.toInt32), (nar .char (s &&& (255 : Int32)).toUInt32.toUInt16.toUInt32.toInt32), (nar .char (flag &&& (255 : Int32)).toUInt32.toUInt16.toUInt32.toInt32)] ys17 [] hl_ys17 rfl (by first | decide | (simp only [Int32.reduceToInt] at *; omega) | omega) (by first | decide | (simp only [Int32.reduceToInt] at *; omega) | omega) (by first | decide | (simp only [Int32.reduceToInt] at *; omega) | omega) (by first | decide | (simp only [Int32.reduceToInt] at *; omega) | omega) (by first | decide | (simp only [Int32.reduceToInt] at *; omega) | omega)) (exa_new (i := 0) rfl) D_234 (hw _ (List.mem_of_getElem? (i := 22) rfl)) (hw _ (List.mem_of_getElem? (i := 23) rfl)) (hw _ (List.mem_of_getElem? (i := 25) rfl)) (hw _ (List.mem_of_getElem? (i := 25) rfl)) (hw _ (List.mem_of_getElem? (i := 24) rfl)) (hw _ (List.mem_of_getElem? (i := 4) rfl)) (hw _ (List.mem_of_getElem? (i := 26) rfl)) (by decide) pd_4 rfl rfl rfl (Nat.le_of_ble_eq_true rfl) (Nat.le_of_ble_eq_true rfl) (Nat.le_of_ble_eq_true rfl) (Nat.le_of_ble_eq_true rfl) ?_
        rintro _ _ ⟨rfl, ys26, hl_ys26, rfl⟩
        show Wp false l Z "com/example/prim_canon/primcanon/output/HeldTextIsEmptyPinLaw" "law" code maxLocals ret room_1 [(a8, oI "com/example/prim_canon/primcanon/output/HeldText" sg_1 [(.ref m9), (.long (0 : Int64)), (.int ((0 : Int32) + x6)), (.null)]), (m9, oA .char ys26), (a1, oA .char [(nar .char (a &&& (255 : Int32)).toUInt32.toUInt16.toUInt32.toInt32), (nar .char (b &&& (255 : Int32)).toUInt32.toUInt16.toUInt32.toInt32), (nar .char (s &&& (255 : Int32)).toUInt32.toUInt16.toUInt32.toInt32), (nar .char (flag &&& (255 : Int32)).toUInt32.toUInt16.toUInt32.toInt32)])] 3 266 237 #[.val (.int a), .val (.int b), .val (.int s), .val (.int flag), .val (.ref a1), .val (.int x2), .val (.int x3), .val (.int x4), .val (.int x5), .val (.int x6), .val (.int x7), .val (.ref a8), .val (.int (1 : Int32))] [] Q_law
        have hs_q27 := own_sum (0 : Int32) x6 (by first | decide | (simp only [Int32.reduceToInt] at *; omega) | omega) (by first | decide | (simp only [Int32.reduceToInt] at *; omega) | omega) (by first | decide | (simp only [Int32.reduceToInt] at *; omega) | omega)
        generalize hg_q27 : ((0 : Int32) + x6) = q27 at *
        show Wp false l Z "com/example/prim_canon/primcanon/output/HeldTextIsEmptyPinLaw" "law" code maxLocals ret room_1 [(a8, oI "com/example/prim_canon/primcanon/output/HeldText" sg_1 [(.ref m9), (.long (0 : Int64)), (.int q27), (.null)]), (m9, oA .char ys26), (a1, oA .char [(nar .char (a &&& (255 : Int32)).toUInt32.toUInt16.toUInt32.toInt32), (nar .char (b &&& (255 : Int32)).toUInt32.toUInt16.toUInt32.toInt32), (nar .char (s &&& (255 : Int32)).toUInt32.toUInt16.toUInt32.toInt32), (nar .char (flag &&& (255 : Int32)).toUInt32.toUInt16.toUInt32.toInt32)])] 3 266 237 #[.val (.int a), .val (.int b), .val (.int s), .val (.int flag), .val (.ref a1), .val (.int x2), .val (.int x3), .val (.int x4), .val (.int x5), .val (.int x6), .val (.int x7), .val (.ref a8), .val (.int (1 : Int32))] [] Q_law
        refine wp_iload D_237 rfl ?_
        refine wp_if_eq D_239 (pc'' := 264) ⟨by decide, by decide⟩ (fun h28 => by exact absurd h28 (by decide)) (fun h28 => ?_)
        refine wp_aload D_242 rfl rfl ?_
        refine wp_virtual (c_emp l Z a0 hw a8 m9 q27 [(m9, oA .char ys26), (a1, oA .char [(nar .char (a &&& (255 : Int32)).toUInt32.toUInt16.toUInt32.toInt32), (nar .char (b &&& (255 : Int32)).toUInt32.toUInt16.toUInt32.toInt32), (nar .char (s &&& (255 : Int32)).toUInt32.toUInt16.toUInt32.toInt32), (nar .char (flag &&& (255 : Int32)).toUInt32.toUInt16.toUInt32.toInt32)])]) (exa_new (i := 0) rfl) D_244 (hw _ (List.mem_of_getElem? (i := 13) rfl)) (hw _ (List.mem_of_getElem? (i := 14) rfl)) (hw _ (List.mem_of_getElem? (i := 16) rfl)) (hw _ (List.mem_of_getElem? (i := 16) rfl)) (hw _ (List.mem_of_getElem? (i := 15) rfl)) (hw _ (List.mem_of_getElem? (i := 4) rfl)) (hw _ (List.mem_of_getElem? (i := 17) rfl)) (by decide) pd_3 rfl rfl rfl (Nat.le_of_ble_eq_true rfl) (Nat.le_of_ble_eq_true rfl) (Nat.le_of_ble_eq_true rfl) (Nat.le_of_ble_eq_true rfl) ?_
        rintro _ _ ⟨rfl, rfl⟩
        by_cases hp29 : q27.toInt = 0
        · rw [if_pos hp29]
          show Wp false l Z "com/example/prim_canon/primcanon/output/HeldTextIsEmptyPinLaw" "law" code maxLocals ret room_1 [(a8, oI "com/example/prim_canon/primcanon/output/HeldText" sg_1 [(.ref m9), (.long (0 : Int64)), (.int q27), (.null)]), (m9, oA .char ys26), (a1, oA .char [(nar .char (a &&& (255 : Int32)).toUInt32.toUInt16.toUInt32.toInt32), (nar .char (b &&& (255 : Int32)).toUInt32.toUInt16.toUInt32.toInt32), (nar .char (s &&& (255 : Int32)).toUInt32.toUInt16.toUInt32.toInt32), (nar .char (flag &&& (255 : Int32)).toUInt32.toUInt16.toUInt32.toInt32)])] 3 266 247 #[.val (.int a), .val (.int b), .val (.int s), .val (.int flag), .val (.ref a1), .val (.int x2), .val (.int x3), .val (.int x4), .val (.int x5), .val (.int x6), .val (.int x7), .val (.ref a8), .val (.int (1 : Int32))] [(.int (1 : Int32))] Q_law
          refine wp_iload D_247 rfl ?_
          refine wp_if_ne D_249 (pc'' := 256) ⟨by decide, by decide⟩ (fun h30 => by exfalso; (simp only [Int32.lt_iff_toInt_lt, Int32.le_iff_toInt_le, ← Int32.toInt_inj, Int32.reduceToInt, Int64.lt_iff_toInt_lt, ← Int64.toInt_inj, Int64.reduceToInt] at *; omega)) (fun h30 => ?_)
          refine wp_iconst 1 D_252 (by decide) ?_
          refine wp_goto D_253 (pc'' := 257) ⟨by decide, by decide⟩ ?_
          refine wp_icmp_ne D_257 (pc'' := 264) ⟨by decide, by decide⟩ (fun h31 => by exact absurd h31 (by decide)) (fun h31 => ?_)
          refine wp_iconst 1 D_260 (by decide) ?_
          refine wp_goto D_261 (pc'' := 265) ⟨by decide, by decide⟩ ?_
          refine wp_istore #[.val (.int a), .val (.int b), .val (.int s), .val (.int flag), .val (.ref a1), .val (.int x2), .val (.int x3), .val (.int x4), .val (.int x5), .val (.int x6), .val (.int x7), .val (.ref a8), .val (.int (1 : Int32))] D_265 rfl ?_
          refine wp_iload D_267 rfl ?_
          refine wp_ireturnN D_269 rfl (by simp) (by decide) (by decide) ?_
          exact rfl
        · rw [if_neg hp29]
          show Wp false l Z "com/example/prim_canon/primcanon/output/HeldTextIsEmptyPinLaw" "law" code maxLocals ret room_1 [(a8, oI "com/example/prim_canon/primcanon/output/HeldText" sg_1 [(.ref m9), (.long (0 : Int64)), (.int q27), (.null)]), (m9, oA .char ys26), (a1, oA .char [(nar .char (a &&& (255 : Int32)).toUInt32.toUInt16.toUInt32.toInt32), (nar .char (b &&& (255 : Int32)).toUInt32.toUInt16.toUInt32.toInt32), (nar .char (s &&& (255 : Int32)).toUInt32.toUInt16.toUInt32.toInt32), (nar .char (flag &&& (255 : Int32)).toUInt32.toUInt16.toUInt32.toInt32)])] 3 266 247 #[.val (.int a), .val (.int b), .val (.int s), .val (.int flag), .val (.ref a1), .val (.int x2), .val (.int x3), .val (.int x4), .val (.int x5), .val (.int x6), .val (.int x7), .val (.ref a8), .val (.int (1 : Int32))] [(.int (0 : Int32))] Q_law
          refine wp_iload D_247 rfl ?_
          refine wp_if_ne D_249 (pc'' := 256) ⟨by decide, by decide⟩ (fun h32 => ?_) (fun h32 => by exfalso; (simp only [Int32.lt_iff_toInt_lt, Int32.le_iff_toInt_le, ← Int32.toInt_inj, Int32.reduceToInt, Int64.lt_iff_toInt_lt, ← Int64.toInt_inj, Int64.reduceToInt] at *; omega))
          refine wp_iconst 0 D_256 (by decide) ?_
          refine wp_icmp_ne D_257 (pc'' := 264) ⟨by decide, by decide⟩ (fun h33 => by exact absurd h33 (by decide)) (fun h33 => ?_)
          refine wp_iconst 1 D_260 (by decide) ?_
          refine wp_goto D_261 (pc'' := 265) ⟨by decide, by decide⟩ ?_
          refine wp_istore #[.val (.int a), .val (.int b), .val (.int s), .val (.int flag), .val (.ref a1), .val (.int x2), .val (.int x3), .val (.int x4), .val (.int x5), .val (.int x6), .val (.int x7), .val (.ref a8), .val (.int (1 : Int32))] D_265 rfl ?_
          refine wp_iload D_267 rfl ?_
          refine wp_ireturnN D_269 rfl (by simp) (by decide) (by decide) ?_
          exact rfl
    · rw [if_neg hp20]
      show Wp false l Z "com/example/prim_canon/primcanon/output/HeldTextIsEmptyPinLaw" "law" code maxLocals ret room_1 [(a8, oI "com/example/prim_canon/primcanon/output/HeldText" sg_1 [(.ref m9), (.long (0 : Int64)), (.int q18), (.null)]), (m9, oA .char ys17), (a1, oA .char [(nar .char (a &&& (255 : Int32)).toUInt32.toUInt16.toUInt32.toInt32), (nar .char (b &&& (255 : Int32)).toUInt32.toUInt16.toUInt32.toInt32), (nar .char (s &&& (255 : Int32)).toUInt32.toUInt16.toUInt32.toInt32), (nar .char (flag &&& (255 : Int32)).toUInt32.toUInt16.toUInt32.toInt32)])] 3 266 172 #[.val (.int a), .val (.int b), .val (.int s), .val (.int flag), .val (.ref a1), .val (.int x2), .val (.int x3), .val (.int x4), .val (.int x5), .val (.int x6), .val (.int x7), .val (.ref a8), .val (.int (1 : Int32))] [(.int (0 : Int32))] Q_law
      refine wp_iload D_172 rfl ?_
      refine wp_iload D_174 rfl ?_
      refine wp_iadd D_176 ?_
      have hs177 := own_sum x2 x4 (by omega) (by omega) (by omega)
      refine wp_if_ne D_177 (pc'' := 184) ⟨by decide, by decide⟩ (fun h34 => ?_) (fun h34 => by exfalso; (simp only [Int32.lt_iff_toInt_lt, Int32.le_iff_toInt_le, ← Int32.toInt_inj, Int32.reduceToInt, Int64.lt_iff_toInt_lt, ← Int64.toInt_inj, Int64.reduceToInt] at *; omega))
      refine wp_iconst 0 D_184 (by decide) ?_
      refine wp_icmp_ne D_185 (pc'' := 192) ⟨by decide, by decide⟩ (fun h35 => by exact absurd h35 (by decide)) (fun h35 => ?_)
      refine wp_iconst 1 D_188 (by decide) ?_
      refine wp_goto D_189 (pc'' := 193) ⟨by decide, by decide⟩ ?_
      refine wp_istore #[.val (.int a), .val (.int b), .val (.int s), .val (.int flag), .val (.ref a1), .val (.int x2), .val (.int x3), .val (.int x4), .val (.int x5), .val (.int x6), .val (.int x7), .val (.ref a8), .val (.int (1 : Int32))] D_193 rfl ?_
      refine wp_iload_n D_195 rfl ?_
      refine wp_iconst 1 D_196 (by decide) ?_
      refine wp_iand D_197 ?_
      refine wp_if_eq D_198 (pc'' := 267) ⟨by decide, by decide⟩ (fun h36 => ?_) (fun h36 => ?_)
      · skip
        refine wp_iload D_267 rfl ?_
        refine wp_ireturnN D_269 rfl (by simp) (by decide) (by decide) ?_
        exact rfl
      · skip
        refine wp_aload D_201 rfl rfl ?_
        refine wp_virtual (c_clr l Z a0 hw a8 m9 q18 [(m9, oA .char ys17), (a1, oA .char [(nar .char (a &&& (255 : Int32)).toUInt32.toUInt16.toUInt32.toInt32), (nar .char (b &&& (255 : Int32)).toUInt32.toUInt16.toUInt32.toInt32), (nar .char (s &&& (255 : Int32)).toUInt32.toUInt16.toUInt32.toInt32), (nar .char (flag &&& (255 : Int32)).toUInt32.toUInt16.toUInt32.toInt32)])]) (exa_new (i := 0) rfl) D_203 (hw _ (List.mem_of_getElem? (i := 32) rfl)) (hw _ (List.mem_of_getElem? (i := 33) rfl)) (hw _ (List.mem_of_getElem? (i := 35) rfl)) (hw _ (List.mem_of_getElem? (i := 35) rfl)) (hw _ (List.mem_of_getElem? (i := 34) rfl)) (hw _ (List.mem_of_getElem? (i := 4) rfl)) (hw _ (List.mem_of_getElem? (i := 36) rfl)) (by decide) pd_2 rfl rfl rfl (Nat.le_of_ble_eq_true rfl) (Nat.le_of_ble_eq_true rfl) (Nat.le_of_ble_eq_true rfl) (Nat.le_of_ble_eq_true rfl) ?_
        rintro _ _ ⟨rfl, rfl⟩
        show Wp false l Z "com/example/prim_canon/primcanon/output/HeldTextIsEmptyPinLaw" "law" code maxLocals ret room_1 [(a8, oI "com/example/prim_canon/primcanon/output/HeldText" sg_1 [(.ref m9), (.long (0 : Int64)), (.int (0 : Int32)), (.null)]), (m9, oA .char ys17), (a1, oA .char [(nar .char (a &&& (255 : Int32)).toUInt32.toUInt16.toUInt32.toInt32), (nar .char (b &&& (255 : Int32)).toUInt32.toUInt16.toUInt32.toInt32), (nar .char (s &&& (255 : Int32)).toUInt32.toUInt16.toUInt32.toInt32), (nar .char (flag &&& (255 : Int32)).toUInt32.toUInt16.toUInt32.toInt32)])] 3 266 206 #[.val (.int a), .val (.int b), .val (.int s), .val (.int flag), .val (.ref a1), .val (.int x2), .val (.int x3), .val (.int x4), .val (.int x5), .val (.int x6), .val (.int x7), .val (.ref a8), .val (.int (1 : Int32))] [] Q_law
        refine wp_iload D_206 rfl ?_
        refine wp_if_eq D_208 (pc'' := 223) ⟨by decide, by decide⟩ (fun h37 => by exact absurd h37 (by decide)) (fun h37 => ?_)
        refine wp_aload D_211 rfl rfl ?_
        refine wp_virtual (c_emp l Z a0 hw a8 m9 (0 : Int32) [(m9, oA .char ys17), (a1, oA .char [(nar .char (a &&& (255 : Int32)).toUInt32.toUInt16.toUInt32.toInt32), (nar .char (b &&& (255 : Int32)).toUInt32.toUInt16.toUInt32.toInt32), (nar .char (s &&& (255 : Int32)).toUInt32.toUInt16.toUInt32.toInt32), (nar .char (flag &&& (255 : Int32)).toUInt32.toUInt16.toUInt32.toInt32)])]) (exa_new (i := 0) rfl) D_213 (hw _ (List.mem_of_getElem? (i := 13) rfl)) (hw _ (List.mem_of_getElem? (i := 14) rfl)) (hw _ (List.mem_of_getElem? (i := 16) rfl)) (hw _ (List.mem_of_getElem? (i := 16) rfl)) (hw _ (List.mem_of_getElem? (i := 15) rfl)) (hw _ (List.mem_of_getElem? (i := 4) rfl)) (hw _ (List.mem_of_getElem? (i := 17) rfl)) (by decide) pd_3 rfl rfl rfl (Nat.le_of_ble_eq_true rfl) (Nat.le_of_ble_eq_true rfl) (Nat.le_of_ble_eq_true rfl) (Nat.le_of_ble_eq_true rfl) ?_
        rintro _ _ ⟨rfl, rfl⟩
        rw [if_pos (by decide)]
        show Wp false l Z "com/example/prim_canon/primcanon/output/HeldTextIsEmptyPinLaw" "law" code maxLocals ret room_1 [(a8, oI "com/example/prim_canon/primcanon/output/HeldText" sg_1 [(.ref m9), (.long (0 : Int64)), (.int (0 : Int32)), (.null)]), (m9, oA .char ys17), (a1, oA .char [(nar .char (a &&& (255 : Int32)).toUInt32.toUInt16.toUInt32.toInt32), (nar .char (b &&& (255 : Int32)).toUInt32.toUInt16.toUInt32.toInt32), (nar .char (s &&& (255 : Int32)).toUInt32.toUInt16.toUInt32.toInt32), (nar .char (flag &&& (255 : Int32)).toUInt32.toUInt16.toUInt32.toInt32)])] 3 266 216 #[.val (.int a), .val (.int b), .val (.int s), .val (.int flag), .val (.ref a1), .val (.int x2), .val (.int x3), .val (.int x4), .val (.int x5), .val (.int x6), .val (.int x7), .val (.ref a8), .val (.int (1 : Int32))] [(.int (1 : Int32))] Q_law
        refine wp_if_eq D_216 (pc'' := 223) ⟨by decide, by decide⟩ (fun h38 => by exact absurd h38 (by decide)) (fun h38 => ?_)
        refine wp_iconst 1 D_219 (by decide) ?_
        refine wp_goto D_220 (pc'' := 224) ⟨by decide, by decide⟩ ?_
        refine wp_istore #[.val (.int a), .val (.int b), .val (.int s), .val (.int flag), .val (.ref a1), .val (.int x2), .val (.int x3), .val (.int x4), .val (.int x5), .val (.int x6), .val (.int x7), .val (.ref a8), .val (.int (1 : Int32))] D_224 rfl ?_
        refine wp_aload D_226 rfl rfl ?_
        refine wp_aload D_228 rfl rfl ?_
        refine wp_iload D_230 rfl ?_
        refine wp_iload D_232 rfl ?_
        refine wp_virtual (c_app l Z a0 hw a8 a1 m9 x7 x6 (0 : Int32) [(nar .char (a &&& (255 : Int32)).toUInt32.toUInt16.toUInt32.toInt32), (nar .char (b &&& (255 : Int32)).toUInt32.toUInt16.toUInt32.toInt32), (nar .char (s &&& (255 : Int32)).toUInt32.toUInt16.toUInt32.toInt32), (nar .char (flag &&& (255 : Int32)).toUInt32.toUInt16.toUInt32.toInt32)] ys17 [] hl_ys17 rfl (by first | decide | (simp only [Int32.reduceToInt] at *; omega) | omega) (by first | decide | (simp only [Int32.reduceToInt] at *; omega) | omega) (by first | decide | (simp only [Int32.reduceToInt] at *; omega) | omega) (by first | decide | (simp only [Int32.reduceToInt] at *; omega) | omega) (by first | decide | (simp only [Int32.reduceToInt] at *; omega) | omega)) (exa_new (i := 0) rfl) D_234 (hw _ (List.mem_of_getElem? (i := 22) rfl)) (hw _ (List.mem_of_getElem? (i := 23) rfl)) (hw _ (List.mem_of_getElem? (i := 25) rfl)) (hw _ (List.mem_of_getElem? (i := 25) rfl)) (hw _ (List.mem_of_getElem? (i := 24) rfl)) (hw _ (List.mem_of_getElem? (i := 4) rfl)) (hw _ (List.mem_of_getElem? (i := 26) rfl)) (by decide) pd_4 rfl rfl rfl (Nat.le_of_ble_eq_true rfl) (Nat.le_of_ble_eq_true rfl) (Nat.le_of_ble_eq_true rfl) (Nat.le_of_ble_eq_true rfl) ?_
        rintro _ _ ⟨rfl, ys39, hl_ys39, rfl⟩
        show Wp false l Z "com/example/prim_canon/primcanon/output/HeldTextIsEmptyPinLaw" "law" code maxLocals ret room_1 [(a8, oI "com/example/prim_canon/primcanon/output/HeldText" sg_1 [(.ref m9), (.long (0 : Int64)), (.int ((0 : Int32) + x6)), (.null)]), (m9, oA .char ys39), (a1, oA .char [(nar .char (a &&& (255 : Int32)).toUInt32.toUInt16.toUInt32.toInt32), (nar .char (b &&& (255 : Int32)).toUInt32.toUInt16.toUInt32.toInt32), (nar .char (s &&& (255 : Int32)).toUInt32.toUInt16.toUInt32.toInt32), (nar .char (flag &&& (255 : Int32)).toUInt32.toUInt16.toUInt32.toInt32)])] 3 266 237 #[.val (.int a), .val (.int b), .val (.int s), .val (.int flag), .val (.ref a1), .val (.int x2), .val (.int x3), .val (.int x4), .val (.int x5), .val (.int x6), .val (.int x7), .val (.ref a8), .val (.int (1 : Int32))] [] Q_law
        have hs_q40 := own_sum (0 : Int32) x6 (by first | decide | (simp only [Int32.reduceToInt] at *; omega) | omega) (by first | decide | (simp only [Int32.reduceToInt] at *; omega) | omega) (by first | decide | (simp only [Int32.reduceToInt] at *; omega) | omega)
        generalize hg_q40 : ((0 : Int32) + x6) = q40 at *
        show Wp false l Z "com/example/prim_canon/primcanon/output/HeldTextIsEmptyPinLaw" "law" code maxLocals ret room_1 [(a8, oI "com/example/prim_canon/primcanon/output/HeldText" sg_1 [(.ref m9), (.long (0 : Int64)), (.int q40), (.null)]), (m9, oA .char ys39), (a1, oA .char [(nar .char (a &&& (255 : Int32)).toUInt32.toUInt16.toUInt32.toInt32), (nar .char (b &&& (255 : Int32)).toUInt32.toUInt16.toUInt32.toInt32), (nar .char (s &&& (255 : Int32)).toUInt32.toUInt16.toUInt32.toInt32), (nar .char (flag &&& (255 : Int32)).toUInt32.toUInt16.toUInt32.toInt32)])] 3 266 237 #[.val (.int a), .val (.int b), .val (.int s), .val (.int flag), .val (.ref a1), .val (.int x2), .val (.int x3), .val (.int x4), .val (.int x5), .val (.int x6), .val (.int x7), .val (.ref a8), .val (.int (1 : Int32))] [] Q_law
        refine wp_iload D_237 rfl ?_
        refine wp_if_eq D_239 (pc'' := 264) ⟨by decide, by decide⟩ (fun h41 => by exact absurd h41 (by decide)) (fun h41 => ?_)
        refine wp_aload D_242 rfl rfl ?_
        refine wp_virtual (c_emp l Z a0 hw a8 m9 q40 [(m9, oA .char ys39), (a1, oA .char [(nar .char (a &&& (255 : Int32)).toUInt32.toUInt16.toUInt32.toInt32), (nar .char (b &&& (255 : Int32)).toUInt32.toUInt16.toUInt32.toInt32), (nar .char (s &&& (255 : Int32)).toUInt32.toUInt16.toUInt32.toInt32), (nar .char (flag &&& (255 : Int32)).toUInt32.toUInt16.toUInt32.toInt32)])]) (exa_new (i := 0) rfl) D_244 (hw _ (List.mem_of_getElem? (i := 13) rfl)) (hw _ (List.mem_of_getElem? (i := 14) rfl)) (hw _ (List.mem_of_getElem? (i := 16) rfl)) (hw _ (List.mem_of_getElem? (i := 16) rfl)) (hw _ (List.mem_of_getElem? (i := 15) rfl)) (hw _ (List.mem_of_getElem? (i := 4) rfl)) (hw _ (List.mem_of_getElem? (i := 17) rfl)) (by decide) pd_3 rfl rfl rfl (Nat.le_of_ble_eq_true rfl) (Nat.le_of_ble_eq_true rfl) (Nat.le_of_ble_eq_true rfl) (Nat.le_of_ble_eq_true rfl) ?_
        rintro _ _ ⟨rfl, rfl⟩
        by_cases hp42 : q40.toInt = 0
        · rw [if_pos hp42]
          show Wp false l Z "com/example/prim_canon/primcanon/output/HeldTextIsEmptyPinLaw" "law" code maxLocals ret room_1 [(a8, oI "com/example/prim_canon/primcanon/output/HeldText" sg_1 [(.ref m9), (.long (0 : Int64)), (.int q40), (.null)]), (m9, oA .char ys39), (a1, oA .char [(nar .char (a &&& (255 : Int32)).toUInt32.toUInt16.toUInt32.toInt32), (nar .char (b &&& (255 : Int32)).toUInt32.toUInt16.toUInt32.toInt32), (nar .char (s &&& (255 : Int32)).toUInt32.toUInt16.toUInt32.toInt32), (nar .char (flag &&& (255 : Int32)).toUInt32.toUInt16.toUInt32.toInt32)])] 3 266 247 #[.val (.int a), .val (.int b), .val (.int s), .val (.int flag), .val (.ref a1), .val (.int x2), .val (.int x3), .val (.int x4), .val (.int x5), .val (.int x6), .val (.int x7), .val (.ref a8), .val (.int (1 : Int32))] [(.int (1 : Int32))] Q_law
          refine wp_iload D_247 rfl ?_
          refine wp_if_ne D_249 (pc'' := 256) ⟨by decide, by decide⟩ (fun h43 => by exfalso; (simp only [Int32.lt_iff_toInt_lt, Int32.le_iff_toInt_le, ← Int32.toInt_inj, Int32.reduceToInt, Int64.lt_iff_toInt_lt, ← Int64.toInt_inj, Int64.reduceToInt] at *; omega)) (fun h43 => ?_)
          refine wp_iconst 1 D_252 (by decide) ?_
          refine wp_goto D_253 (pc'' := 257) ⟨by decide, by decide⟩ ?_
          refine wp_icmp_ne D_257 (pc'' := 264) ⟨by decide, by decide⟩ (fun h44 => by exact absurd h44 (by decide)) (fun h44 => ?_)
          refine wp_iconst 1 D_260 (by decide) ?_
          refine wp_goto D_261 (pc'' := 265) ⟨by decide, by decide⟩ ?_
          refine wp_istore #[.val (.int a), .val (.int b), .val (.int s), .val (.int flag), .val (.ref a1), .val (.int x2), .val (.int x3), .val (.int x4), .val (.int x5), .val (.int x6), .val (.int x7), .val (.ref a8), .val (.int (1 : Int32))] D_265 rfl ?_
          refine wp_iload D_267 rfl ?_
          refine wp_ireturnN D_269 rfl (by simp) (by decide) (by decide) ?_
          exact rfl
        · rw [if_neg hp42]
          show Wp false l Z "com/example/prim_canon/primcanon/output/HeldTextIsEmptyPinLaw" "law" code maxLocals ret room_1 [(a8, oI "com/example/prim_canon/primcanon/output/HeldText" sg_1 [(.ref m9), (.long (0 : Int64)), (.int q40), (.null)]), (m9, oA .char ys39), (a1, oA .char [(nar .char (a &&& (255 : Int32)).toUInt32.toUInt16.toUInt32.toInt32), (nar .char (b &&& (255 : Int32)).toUInt32.toUInt16.toUInt32.toInt32), (nar .char (s &&& (255 : Int32)).toUInt32.toUInt16.toUInt32.toInt32), (nar .char (flag &&& (255 : Int32)).toUInt32.toUInt16.toUInt32.toInt32)])] 3 266 247 #[.val (.int a), .val (.int b), .val (.int s), .val (.int flag), .val (.ref a1), .val (.int x2), .val (.int x3), .val (.int x4), .val (.int x5), .val (.int x6), .val (.int x7), .val (.ref a8), .val (.int (1 : Int32))] [(.int (0 : Int32))] Q_law
          refine wp_iload D_247 rfl ?_
          refine wp_if_ne D_249 (pc'' := 256) ⟨by decide, by decide⟩ (fun h45 => ?_) (fun h45 => by exfalso; (simp only [Int32.lt_iff_toInt_lt, Int32.le_iff_toInt_le, ← Int32.toInt_inj, Int32.reduceToInt, Int64.lt_iff_toInt_lt, ← Int64.toInt_inj, Int64.reduceToInt] at *; omega))
          refine wp_iconst 0 D_256 (by decide) ?_
          refine wp_icmp_ne D_257 (pc'' := 264) ⟨by decide, by decide⟩ (fun h46 => by exact absurd h46 (by decide)) (fun h46 => ?_)
          refine wp_iconst 1 D_260 (by decide) ?_
          refine wp_goto D_261 (pc'' := 265) ⟨by decide, by decide⟩ ?_
          refine wp_istore #[.val (.int a), .val (.int b), .val (.int s), .val (.int flag), .val (.ref a1), .val (.int x2), .val (.int x3), .val (.int x4), .val (.int x5), .val (.int x6), .val (.int x7), .val (.ref a8), .val (.int (1 : Int32))] D_265 rfl ?_
          refine wp_iload D_267 rfl ?_
          refine wp_ireturnN D_269 rfl (by simp) (by decide) (by decide) ?_
          exact rfl
  · rw [if_neg hp14]
    show Wp false l Z "com/example/prim_canon/primcanon/output/HeldTextIsEmptyPinLaw" "law" code maxLocals ret room_1 [(a8, oI "com/example/prim_canon/primcanon/output/HeldText" sg_1 [(.ref m9), (.long (0 : Int64)), (.int q12), (.null)]), (m9, oA .char ys11), (a1, oA .char [(nar .char (a &&& (255 : Int32)).toUInt32.toUInt16.toUInt32.toInt32), (nar .char (b &&& (255 : Int32)).toUInt32.toUInt16.toUInt32.toInt32), (nar .char (s &&& (255 : Int32)).toUInt32.toUInt16.toUInt32.toInt32), (nar .char (flag &&& (255 : Int32)).toUInt32.toUInt16.toUInt32.toInt32)])] 3 266 131 #[.val (.int a), .val (.int b), .val (.int s), .val (.int flag), .val (.ref a1), .val (.int x2), .val (.int x3), .val (.int x4), .val (.int x5), .val (.int x6), .val (.int x7), .val (.ref a8), .val (.int (1 : Int32))] [(.int (0 : Int32))] Q_law
    refine wp_iload D_131 rfl ?_
    refine wp_if_ne D_133 (pc'' := 140) ⟨by decide, by decide⟩ (fun h47 => ?_) (fun h47 => by exfalso; (simp only [Int32.lt_iff_toInt_lt, Int32.le_iff_toInt_le, ← Int32.toInt_inj, Int32.reduceToInt, Int64.lt_iff_toInt_lt, ← Int64.toInt_inj, Int64.reduceToInt] at *; omega))
    refine wp_iconst 0 D_140 (by decide) ?_
    refine wp_icmp_ne D_141 (pc'' := 148) ⟨by decide, by decide⟩ (fun h48 => by exact absurd h48 (by decide)) (fun h48 => ?_)
    refine wp_iconst 1 D_144 (by decide) ?_
    refine wp_goto D_145 (pc'' := 149) ⟨by decide, by decide⟩ ?_
    refine wp_istore #[.val (.int a), .val (.int b), .val (.int s), .val (.int flag), .val (.ref a1), .val (.int x2), .val (.int x3), .val (.int x4), .val (.int x5), .val (.int x6), .val (.int x7), .val (.ref a8), .val (.int (1 : Int32))] D_149 rfl ?_
    refine wp_aload D_151 rfl rfl ?_
    refine wp_aload D_153 rfl rfl ?_
    refine wp_iload D_155 rfl ?_
    refine wp_iload D_157 rfl ?_
    refine wp_virtual (c_app l Z a0 hw a8 a1 m9 x5 x4 q12 [(nar .char (a &&& (255 : Int32)).toUInt32.toUInt16.toUInt32.toInt32), (nar .char (b &&& (255 : Int32)).toUInt32.toUInt16.toUInt32.toInt32), (nar .char (s &&& (255 : Int32)).toUInt32.toUInt16.toUInt32.toInt32), (nar .char (flag &&& (255 : Int32)).toUInt32.toUInt16.toUInt32.toInt32)] ys11 [] hl_ys11 rfl (by first | decide | (simp only [Int32.reduceToInt] at *; omega) | omega) (by first | decide | (simp only [Int32.reduceToInt] at *; omega) | omega) (by first | decide | (simp only [Int32.reduceToInt] at *; omega) | omega) (by first | decide | (simp only [Int32.reduceToInt] at *; omega) | omega) (by first | decide | (simp only [Int32.reduceToInt] at *; omega) | omega)) (exa_new (i := 0) rfl) D_159 (hw _ (List.mem_of_getElem? (i := 22) rfl)) (hw _ (List.mem_of_getElem? (i := 23) rfl)) (hw _ (List.mem_of_getElem? (i := 25) rfl)) (hw _ (List.mem_of_getElem? (i := 25) rfl)) (hw _ (List.mem_of_getElem? (i := 24) rfl)) (hw _ (List.mem_of_getElem? (i := 4) rfl)) (hw _ (List.mem_of_getElem? (i := 26) rfl)) (by decide) pd_4 rfl rfl rfl (Nat.le_of_ble_eq_true rfl) (Nat.le_of_ble_eq_true rfl) (Nat.le_of_ble_eq_true rfl) (Nat.le_of_ble_eq_true rfl) ?_
    rintro _ _ ⟨rfl, ys49, hl_ys49, rfl⟩
    show Wp false l Z "com/example/prim_canon/primcanon/output/HeldTextIsEmptyPinLaw" "law" code maxLocals ret room_1 [(a8, oI "com/example/prim_canon/primcanon/output/HeldText" sg_1 [(.ref m9), (.long (0 : Int64)), (.int (q12 + x4)), (.null)]), (m9, oA .char ys49), (a1, oA .char [(nar .char (a &&& (255 : Int32)).toUInt32.toUInt16.toUInt32.toInt32), (nar .char (b &&& (255 : Int32)).toUInt32.toUInt16.toUInt32.toInt32), (nar .char (s &&& (255 : Int32)).toUInt32.toUInt16.toUInt32.toInt32), (nar .char (flag &&& (255 : Int32)).toUInt32.toUInt16.toUInt32.toInt32)])] 3 266 162 #[.val (.int a), .val (.int b), .val (.int s), .val (.int flag), .val (.ref a1), .val (.int x2), .val (.int x3), .val (.int x4), .val (.int x5), .val (.int x6), .val (.int x7), .val (.ref a8), .val (.int (1 : Int32))] [] Q_law
    have hs_q50 := own_sum q12 x4 (by first | decide | (simp only [Int32.reduceToInt] at *; omega) | omega) (by first | decide | (simp only [Int32.reduceToInt] at *; omega) | omega) (by first | decide | (simp only [Int32.reduceToInt] at *; omega) | omega)
    generalize hg_q50 : (q12 + x4) = q50 at *
    show Wp false l Z "com/example/prim_canon/primcanon/output/HeldTextIsEmptyPinLaw" "law" code maxLocals ret room_1 [(a8, oI "com/example/prim_canon/primcanon/output/HeldText" sg_1 [(.ref m9), (.long (0 : Int64)), (.int q50), (.null)]), (m9, oA .char ys49), (a1, oA .char [(nar .char (a &&& (255 : Int32)).toUInt32.toUInt16.toUInt32.toInt32), (nar .char (b &&& (255 : Int32)).toUInt32.toUInt16.toUInt32.toInt32), (nar .char (s &&& (255 : Int32)).toUInt32.toUInt16.toUInt32.toInt32), (nar .char (flag &&& (255 : Int32)).toUInt32.toUInt16.toUInt32.toInt32)])] 3 266 162 #[.val (.int a), .val (.int b), .val (.int s), .val (.int flag), .val (.ref a1), .val (.int x2), .val (.int x3), .val (.int x4), .val (.int x5), .val (.int x6), .val (.int x7), .val (.ref a8), .val (.int (1 : Int32))] [] Q_law
    refine wp_iload D_162 rfl ?_
    refine wp_if_eq D_164 (pc'' := 192) ⟨by decide, by decide⟩ (fun h51 => by exact absurd h51 (by decide)) (fun h51 => ?_)
    refine wp_aload D_167 rfl rfl ?_
    refine wp_virtual (c_emp l Z a0 hw a8 m9 q50 [(m9, oA .char ys49), (a1, oA .char [(nar .char (a &&& (255 : Int32)).toUInt32.toUInt16.toUInt32.toInt32), (nar .char (b &&& (255 : Int32)).toUInt32.toUInt16.toUInt32.toInt32), (nar .char (s &&& (255 : Int32)).toUInt32.toUInt16.toUInt32.toInt32), (nar .char (flag &&& (255 : Int32)).toUInt32.toUInt16.toUInt32.toInt32)])]) (exa_new (i := 0) rfl) D_169 (hw _ (List.mem_of_getElem? (i := 13) rfl)) (hw _ (List.mem_of_getElem? (i := 14) rfl)) (hw _ (List.mem_of_getElem? (i := 16) rfl)) (hw _ (List.mem_of_getElem? (i := 16) rfl)) (hw _ (List.mem_of_getElem? (i := 15) rfl)) (hw _ (List.mem_of_getElem? (i := 4) rfl)) (hw _ (List.mem_of_getElem? (i := 17) rfl)) (by decide) pd_3 rfl rfl rfl (Nat.le_of_ble_eq_true rfl) (Nat.le_of_ble_eq_true rfl) (Nat.le_of_ble_eq_true rfl) (Nat.le_of_ble_eq_true rfl) ?_
    rintro _ _ ⟨rfl, rfl⟩
    by_cases hp52 : q50.toInt = 0
    · rw [if_pos hp52]
      show Wp false l Z "com/example/prim_canon/primcanon/output/HeldTextIsEmptyPinLaw" "law" code maxLocals ret room_1 [(a8, oI "com/example/prim_canon/primcanon/output/HeldText" sg_1 [(.ref m9), (.long (0 : Int64)), (.int q50), (.null)]), (m9, oA .char ys49), (a1, oA .char [(nar .char (a &&& (255 : Int32)).toUInt32.toUInt16.toUInt32.toInt32), (nar .char (b &&& (255 : Int32)).toUInt32.toUInt16.toUInt32.toInt32), (nar .char (s &&& (255 : Int32)).toUInt32.toUInt16.toUInt32.toInt32), (nar .char (flag &&& (255 : Int32)).toUInt32.toUInt16.toUInt32.toInt32)])] 3 266 172 #[.val (.int a), .val (.int b), .val (.int s), .val (.int flag), .val (.ref a1), .val (.int x2), .val (.int x3), .val (.int x4), .val (.int x5), .val (.int x6), .val (.int x7), .val (.ref a8), .val (.int (1 : Int32))] [(.int (1 : Int32))] Q_law
      refine wp_iload D_172 rfl ?_
      refine wp_iload D_174 rfl ?_
      refine wp_iadd D_176 ?_
      have hs177 := own_sum x2 x4 (by omega) (by omega) (by omega)
      refine wp_if_ne D_177 (pc'' := 184) ⟨by decide, by decide⟩ (fun h53 => by exfalso; (simp only [Int32.lt_iff_toInt_lt, Int32.le_iff_toInt_le, ← Int32.toInt_inj, Int32.reduceToInt, Int64.lt_iff_toInt_lt, ← Int64.toInt_inj, Int64.reduceToInt] at *; omega)) (fun h53 => ?_)
      refine wp_iconst 1 D_180 (by decide) ?_
      refine wp_goto D_181 (pc'' := 185) ⟨by decide, by decide⟩ ?_
      refine wp_icmp_ne D_185 (pc'' := 192) ⟨by decide, by decide⟩ (fun h54 => by exact absurd h54 (by decide)) (fun h54 => ?_)
      refine wp_iconst 1 D_188 (by decide) ?_
      refine wp_goto D_189 (pc'' := 193) ⟨by decide, by decide⟩ ?_
      refine wp_istore #[.val (.int a), .val (.int b), .val (.int s), .val (.int flag), .val (.ref a1), .val (.int x2), .val (.int x3), .val (.int x4), .val (.int x5), .val (.int x6), .val (.int x7), .val (.ref a8), .val (.int (1 : Int32))] D_193 rfl ?_
      refine wp_iload_n D_195 rfl ?_
      refine wp_iconst 1 D_196 (by decide) ?_
      refine wp_iand D_197 ?_
      refine wp_if_eq D_198 (pc'' := 267) ⟨by decide, by decide⟩ (fun h55 => ?_) (fun h55 => ?_)
      · skip
        refine wp_iload D_267 rfl ?_
        refine wp_ireturnN D_269 rfl (by simp) (by decide) (by decide) ?_
        exact rfl
      · skip
        refine wp_aload D_201 rfl rfl ?_
        refine wp_virtual (c_clr l Z a0 hw a8 m9 q50 [(m9, oA .char ys49), (a1, oA .char [(nar .char (a &&& (255 : Int32)).toUInt32.toUInt16.toUInt32.toInt32), (nar .char (b &&& (255 : Int32)).toUInt32.toUInt16.toUInt32.toInt32), (nar .char (s &&& (255 : Int32)).toUInt32.toUInt16.toUInt32.toInt32), (nar .char (flag &&& (255 : Int32)).toUInt32.toUInt16.toUInt32.toInt32)])]) (exa_new (i := 0) rfl) D_203 (hw _ (List.mem_of_getElem? (i := 32) rfl)) (hw _ (List.mem_of_getElem? (i := 33) rfl)) (hw _ (List.mem_of_getElem? (i := 35) rfl)) (hw _ (List.mem_of_getElem? (i := 35) rfl)) (hw _ (List.mem_of_getElem? (i := 34) rfl)) (hw _ (List.mem_of_getElem? (i := 4) rfl)) (hw _ (List.mem_of_getElem? (i := 36) rfl)) (by decide) pd_2 rfl rfl rfl (Nat.le_of_ble_eq_true rfl) (Nat.le_of_ble_eq_true rfl) (Nat.le_of_ble_eq_true rfl) (Nat.le_of_ble_eq_true rfl) ?_
        rintro _ _ ⟨rfl, rfl⟩
        show Wp false l Z "com/example/prim_canon/primcanon/output/HeldTextIsEmptyPinLaw" "law" code maxLocals ret room_1 [(a8, oI "com/example/prim_canon/primcanon/output/HeldText" sg_1 [(.ref m9), (.long (0 : Int64)), (.int (0 : Int32)), (.null)]), (m9, oA .char ys49), (a1, oA .char [(nar .char (a &&& (255 : Int32)).toUInt32.toUInt16.toUInt32.toInt32), (nar .char (b &&& (255 : Int32)).toUInt32.toUInt16.toUInt32.toInt32), (nar .char (s &&& (255 : Int32)).toUInt32.toUInt16.toUInt32.toInt32), (nar .char (flag &&& (255 : Int32)).toUInt32.toUInt16.toUInt32.toInt32)])] 3 266 206 #[.val (.int a), .val (.int b), .val (.int s), .val (.int flag), .val (.ref a1), .val (.int x2), .val (.int x3), .val (.int x4), .val (.int x5), .val (.int x6), .val (.int x7), .val (.ref a8), .val (.int (1 : Int32))] [] Q_law
        refine wp_iload D_206 rfl ?_
        refine wp_if_eq D_208 (pc'' := 223) ⟨by decide, by decide⟩ (fun h56 => by exact absurd h56 (by decide)) (fun h56 => ?_)
        refine wp_aload D_211 rfl rfl ?_
        refine wp_virtual (c_emp l Z a0 hw a8 m9 (0 : Int32) [(m9, oA .char ys49), (a1, oA .char [(nar .char (a &&& (255 : Int32)).toUInt32.toUInt16.toUInt32.toInt32), (nar .char (b &&& (255 : Int32)).toUInt32.toUInt16.toUInt32.toInt32), (nar .char (s &&& (255 : Int32)).toUInt32.toUInt16.toUInt32.toInt32), (nar .char (flag &&& (255 : Int32)).toUInt32.toUInt16.toUInt32.toInt32)])]) (exa_new (i := 0) rfl) D_213 (hw _ (List.mem_of_getElem? (i := 13) rfl)) (hw _ (List.mem_of_getElem? (i := 14) rfl)) (hw _ (List.mem_of_getElem? (i := 16) rfl)) (hw _ (List.mem_of_getElem? (i := 16) rfl)) (hw _ (List.mem_of_getElem? (i := 15) rfl)) (hw _ (List.mem_of_getElem? (i := 4) rfl)) (hw _ (List.mem_of_getElem? (i := 17) rfl)) (by decide) pd_3 rfl rfl rfl (Nat.le_of_ble_eq_true rfl) (Nat.le_of_ble_eq_true rfl) (Nat.le_of_ble_eq_true rfl) (Nat.le_of_ble_eq_true rfl) ?_
        rintro _ _ ⟨rfl, rfl⟩
        rw [if_pos (by decide)]
        show Wp false l Z "com/example/prim_canon/primcanon/output/HeldTextIsEmptyPinLaw" "law" code maxLocals ret room_1 [(a8, oI "com/example/prim_canon/primcanon/output/HeldText" sg_1 [(.ref m9), (.long (0 : Int64)), (.int (0 : Int32)), (.null)]), (m9, oA .char ys49), (a1, oA .char [(nar .char (a &&& (255 : Int32)).toUInt32.toUInt16.toUInt32.toInt32), (nar .char (b &&& (255 : Int32)).toUInt32.toUInt16.toUInt32.toInt32), (nar .char (s &&& (255 : Int32)).toUInt32.toUInt16.toUInt32.toInt32), (nar .char (flag &&& (255 : Int32)).toUInt32.toUInt16.toUInt32.toInt32)])] 3 266 216 #[.val (.int a), .val (.int b), .val (.int s), .val (.int flag), .val (.ref a1), .val (.int x2), .val (.int x3), .val (.int x4), .val (.int x5), .val (.int x6), .val (.int x7), .val (.ref a8), .val (.int (1 : Int32))] [(.int (1 : Int32))] Q_law
        refine wp_if_eq D_216 (pc'' := 223) ⟨by decide, by decide⟩ (fun h57 => by exact absurd h57 (by decide)) (fun h57 => ?_)
        refine wp_iconst 1 D_219 (by decide) ?_
        refine wp_goto D_220 (pc'' := 224) ⟨by decide, by decide⟩ ?_
        refine wp_istore #[.val (.int a), .val (.int b), .val (.int s), .val (.int flag), .val (.ref a1), .val (.int x2), .val (.int x3), .val (.int x4), .val (.int x5), .val (.int x6), .val (.int x7), .val (.ref a8), .val (.int (1 : Int32))] D_224 rfl ?_
        refine wp_aload D_226 rfl rfl ?_
        refine wp_aload D_228 rfl rfl ?_
        refine wp_iload D_230 rfl ?_
        refine wp_iload D_232 rfl ?_
        refine wp_virtual (c_app l Z a0 hw a8 a1 m9 x7 x6 (0 : Int32) [(nar .char (a &&& (255 : Int32)).toUInt32.toUInt16.toUInt32.toInt32), (nar .char (b &&& (255 : Int32)).toUInt32.toUInt16.toUInt32.toInt32), (nar .char (s &&& (255 : Int32)).toUInt32.toUInt16.toUInt32.toInt32), (nar .char (flag &&& (255 : Int32)).toUInt32.toUInt16.toUInt32.toInt32)] ys49 [] hl_ys49 rfl (by first | decide | (simp only [Int32.reduceToInt] at *; omega) | omega) (by first | decide | (simp only [Int32.reduceToInt] at *; omega) | omega) (by first | decide | (simp only [Int32.reduceToInt] at *; omega) | omega) (by first | decide | (simp only [Int32.reduceToInt] at *; omega) | omega) (by first | decide | (simp only [Int32.reduceToInt] at *; omega) | omega)) (exa_new (i := 0) rfl) D_234 (hw _ (List.mem_of_getElem? (i := 22) rfl)) (hw _ (List.mem_of_getElem? (i := 23) rfl)) (hw _ (List.mem_of_getElem? (i := 25) rfl)) (hw _ (List.mem_of_getElem? (i := 25) rfl)) (hw _ (List.mem_of_getElem? (i := 24) rfl)) (hw _ (List.mem_of_getElem? (i := 4) rfl)) (hw _ (List.mem_of_getElem? (i := 26) rfl)) (by decide) pd_4 rfl rfl rfl (Nat.le_of_ble_eq_true rfl) (Nat.le_of_ble_eq_true rfl) (Nat.le_of_ble_eq_true rfl) (Nat.le_of_ble_eq_true rfl) ?_
        rintro _ _ ⟨rfl, ys58, hl_ys58, rfl⟩
        show Wp false l Z "com/example/prim_canon/primcanon/output/HeldTextIsEmptyPinLaw" "law" code maxLocals ret room_1 [(a8, oI "com/example/prim_canon/primcanon/output/HeldText" sg_1 [(.ref m9), (.long (0 : Int64)), (.int ((0 : Int32) + x6)), (.null)]), (m9, oA .char ys58), (a1, oA .char [(nar .char (a &&& (255 : Int32)).toUInt32.toUInt16.toUInt32.toInt32), (nar .char (b &&& (255 : Int32)).toUInt32.toUInt16.toUInt32.toInt32), (nar .char (s &&& (255 : Int32)).toUInt32.toUInt16.toUInt32.toInt32), (nar .char (flag &&& (255 : Int32)).toUInt32.toUInt16.toUInt32.toInt32)])] 3 266 237 #[.val (.int a), .val (.int b), .val (.int s), .val (.int flag), .val (.ref a1), .val (.int x2), .val (.int x3), .val (.int x4), .val (.int x5), .val (.int x6), .val (.int x7), .val (.ref a8), .val (.int (1 : Int32))] [] Q_law
        have hs_q59 := own_sum (0 : Int32) x6 (by first | decide | (simp only [Int32.reduceToInt] at *; omega) | omega) (by first | decide | (simp only [Int32.reduceToInt] at *; omega) | omega) (by first | decide | (simp only [Int32.reduceToInt] at *; omega) | omega)
        generalize hg_q59 : ((0 : Int32) + x6) = q59 at *
        show Wp false l Z "com/example/prim_canon/primcanon/output/HeldTextIsEmptyPinLaw" "law" code maxLocals ret room_1 [(a8, oI "com/example/prim_canon/primcanon/output/HeldText" sg_1 [(.ref m9), (.long (0 : Int64)), (.int q59), (.null)]), (m9, oA .char ys58), (a1, oA .char [(nar .char (a &&& (255 : Int32)).toUInt32.toUInt16.toUInt32.toInt32), (nar .char (b &&& (255 : Int32)).toUInt32.toUInt16.toUInt32.toInt32), (nar .char (s &&& (255 : Int32)).toUInt32.toUInt16.toUInt32.toInt32), (nar .char (flag &&& (255 : Int32)).toUInt32.toUInt16.toUInt32.toInt32)])] 3 266 237 #[.val (.int a), .val (.int b), .val (.int s), .val (.int flag), .val (.ref a1), .val (.int x2), .val (.int x3), .val (.int x4), .val (.int x5), .val (.int x6), .val (.int x7), .val (.ref a8), .val (.int (1 : Int32))] [] Q_law
        refine wp_iload D_237 rfl ?_
        refine wp_if_eq D_239 (pc'' := 264) ⟨by decide, by decide⟩ (fun h60 => by exact absurd h60 (by decide)) (fun h60 => ?_)
        refine wp_aload D_242 rfl rfl ?_
        refine wp_virtual (c_emp l Z a0 hw a8 m9 q59 [(m9, oA .char ys58), (a1, oA .char [(nar .char (a &&& (255 : Int32)).toUInt32.toUInt16.toUInt32.toInt32), (nar .char (b &&& (255 : Int32)).toUInt32.toUInt16.toUInt32.toInt32), (nar .char (s &&& (255 : Int32)).toUInt32.toUInt16.toUInt32.toInt32), (nar .char (flag &&& (255 : Int32)).toUInt32.toUInt16.toUInt32.toInt32)])]) (exa_new (i := 0) rfl) D_244 (hw _ (List.mem_of_getElem? (i := 13) rfl)) (hw _ (List.mem_of_getElem? (i := 14) rfl)) (hw _ (List.mem_of_getElem? (i := 16) rfl)) (hw _ (List.mem_of_getElem? (i := 16) rfl)) (hw _ (List.mem_of_getElem? (i := 15) rfl)) (hw _ (List.mem_of_getElem? (i := 4) rfl)) (hw _ (List.mem_of_getElem? (i := 17) rfl)) (by decide) pd_3 rfl rfl rfl (Nat.le_of_ble_eq_true rfl) (Nat.le_of_ble_eq_true rfl) (Nat.le_of_ble_eq_true rfl) (Nat.le_of_ble_eq_true rfl) ?_
        rintro _ _ ⟨rfl, rfl⟩
        by_cases hp61 : q59.toInt = 0
        · rw [if_pos hp61]
          show Wp false l Z "com/example/prim_canon/primcanon/output/HeldTextIsEmptyPinLaw" "law" code maxLocals ret room_1 [(a8, oI "com/example/prim_canon/primcanon/output/HeldText" sg_1 [(.ref m9), (.long (0 : Int64)), (.int q59), (.null)]), (m9, oA .char ys58), (a1, oA .char [(nar .char (a &&& (255 : Int32)).toUInt32.toUInt16.toUInt32.toInt32), (nar .char (b &&& (255 : Int32)).toUInt32.toUInt16.toUInt32.toInt32), (nar .char (s &&& (255 : Int32)).toUInt32.toUInt16.toUInt32.toInt32), (nar .char (flag &&& (255 : Int32)).toUInt32.toUInt16.toUInt32.toInt32)])] 3 266 247 #[.val (.int a), .val (.int b), .val (.int s), .val (.int flag), .val (.ref a1), .val (.int x2), .val (.int x3), .val (.int x4), .val (.int x5), .val (.int x6), .val (.int x7), .val (.ref a8), .val (.int (1 : Int32))] [(.int (1 : Int32))] Q_law
          refine wp_iload D_247 rfl ?_
          refine wp_if_ne D_249 (pc'' := 256) ⟨by decide, by decide⟩ (fun h62 => by exfalso; (simp only [Int32.lt_iff_toInt_lt, Int32.le_iff_toInt_le, ← Int32.toInt_inj, Int32.reduceToInt, Int64.lt_iff_toInt_lt, ← Int64.toInt_inj, Int64.reduceToInt] at *; omega)) (fun h62 => ?_)
          refine wp_iconst 1 D_252 (by decide) ?_
          refine wp_goto D_253 (pc'' := 257) ⟨by decide, by decide⟩ ?_
          refine wp_icmp_ne D_257 (pc'' := 264) ⟨by decide, by decide⟩ (fun h63 => by exact absurd h63 (by decide)) (fun h63 => ?_)
          refine wp_iconst 1 D_260 (by decide) ?_
          refine wp_goto D_261 (pc'' := 265) ⟨by decide, by decide⟩ ?_
          refine wp_istore #[.val (.int a), .val (.int b), .val (.int s), .val (.int flag), .val (.ref a1), .val (.int x2), .val (.int x3), .val (.int x4), .val (.int x5), .val (.int x6), .val (.int x7), .val (.ref a8), .val (.int (1 : Int32))] D_265 rfl ?_
          refine wp_iload D_267 rfl ?_
          refine wp_ireturnN D_269 rfl (by simp) (by decide) (by decide) ?_
          exact rfl
        · rw [if_neg hp61]
          show Wp false l Z "com/example/prim_canon/primcanon/output/HeldTextIsEmptyPinLaw" "law" code maxLocals ret room_1 [(a8, oI "com/example/prim_canon/primcanon/output/HeldText" sg_1 [(.ref m9), (.long (0 : Int64)), (.int q59), (.null)]), (m9, oA .char ys58), (a1, oA .char [(nar .char (a &&& (255 : Int32)).toUInt32.toUInt16.toUInt32.toInt32), (nar .char (b &&& (255 : Int32)).toUInt32.toUInt16.toUInt32.toInt32), (nar .char (s &&& (255 : Int32)).toUInt32.toUInt16.toUInt32.toInt32), (nar .char (flag &&& (255 : Int32)).toUInt32.toUInt16.toUInt32.toInt32)])] 3 266 247 #[.val (.int a), .val (.int b), .val (.int s), .val (.int flag), .val (.ref a1), .val (.int x2), .val (.int x3), .val (.int x4), .val (.int x5), .val (.int x6), .val (.int x7), .val (.ref a8), .val (.int (1 : Int32))] [(.int (0 : Int32))] Q_law
          refine wp_iload D_247 rfl ?_
          refine wp_if_ne D_249 (pc'' := 256) ⟨by decide, by decide⟩ (fun h64 => ?_) (fun h64 => by exfalso; (simp only [Int32.lt_iff_toInt_lt, Int32.le_iff_toInt_le, ← Int32.toInt_inj, Int32.reduceToInt, Int64.lt_iff_toInt_lt, ← Int64.toInt_inj, Int64.reduceToInt] at *; omega))
          refine wp_iconst 0 D_256 (by decide) ?_
          refine wp_icmp_ne D_257 (pc'' := 264) ⟨by decide, by decide⟩ (fun h65 => by exact absurd h65 (by decide)) (fun h65 => ?_)
          refine wp_iconst 1 D_260 (by decide) ?_
          refine wp_goto D_261 (pc'' := 265) ⟨by decide, by decide⟩ ?_
          refine wp_istore #[.val (.int a), .val (.int b), .val (.int s), .val (.int flag), .val (.ref a1), .val (.int x2), .val (.int x3), .val (.int x4), .val (.int x5), .val (.int x6), .val (.int x7), .val (.ref a8), .val (.int (1 : Int32))] D_265 rfl ?_
          refine wp_iload D_267 rfl ?_
          refine wp_ireturnN D_269 rfl (by simp) (by decide) (by decide) ?_
          exact rfl
    · rw [if_neg hp52]
      show Wp false l Z "com/example/prim_canon/primcanon/output/HeldTextIsEmptyPinLaw" "law" code maxLocals ret room_1 [(a8, oI "com/example/prim_canon/primcanon/output/HeldText" sg_1 [(.ref m9), (.long (0 : Int64)), (.int q50), (.null)]), (m9, oA .char ys49), (a1, oA .char [(nar .char (a &&& (255 : Int32)).toUInt32.toUInt16.toUInt32.toInt32), (nar .char (b &&& (255 : Int32)).toUInt32.toUInt16.toUInt32.toInt32), (nar .char (s &&& (255 : Int32)).toUInt32.toUInt16.toUInt32.toInt32), (nar .char (flag &&& (255 : Int32)).toUInt32.toUInt16.toUInt32.toInt32)])] 3 266 172 #[.val (.int a), .val (.int b), .val (.int s), .val (.int flag), .val (.ref a1), .val (.int x2), .val (.int x3), .val (.int x4), .val (.int x5), .val (.int x6), .val (.int x7), .val (.ref a8), .val (.int (1 : Int32))] [(.int (0 : Int32))] Q_law
      refine wp_iload D_172 rfl ?_
      refine wp_iload D_174 rfl ?_
      refine wp_iadd D_176 ?_
      have hs177 := own_sum x2 x4 (by omega) (by omega) (by omega)
      refine wp_if_ne D_177 (pc'' := 184) ⟨by decide, by decide⟩ (fun h66 => ?_) (fun h66 => by exfalso; (simp only [Int32.lt_iff_toInt_lt, Int32.le_iff_toInt_le, ← Int32.toInt_inj, Int32.reduceToInt, Int64.lt_iff_toInt_lt, ← Int64.toInt_inj, Int64.reduceToInt] at *; omega))
      refine wp_iconst 0 D_184 (by decide) ?_
      refine wp_icmp_ne D_185 (pc'' := 192) ⟨by decide, by decide⟩ (fun h67 => by exact absurd h67 (by decide)) (fun h67 => ?_)
      refine wp_iconst 1 D_188 (by decide) ?_
      refine wp_goto D_189 (pc'' := 193) ⟨by decide, by decide⟩ ?_
      refine wp_istore #[.val (.int a), .val (.int b), .val (.int s), .val (.int flag), .val (.ref a1), .val (.int x2), .val (.int x3), .val (.int x4), .val (.int x5), .val (.int x6), .val (.int x7), .val (.ref a8), .val (.int (1 : Int32))] D_193 rfl ?_
      refine wp_iload_n D_195 rfl ?_
      refine wp_iconst 1 D_196 (by decide) ?_
      refine wp_iand D_197 ?_
      refine wp_if_eq D_198 (pc'' := 267) ⟨by decide, by decide⟩ (fun h68 => ?_) (fun h68 => ?_)
      · skip
        refine wp_iload D_267 rfl ?_
        refine wp_ireturnN D_269 rfl (by simp) (by decide) (by decide) ?_
        exact rfl
      · skip
        refine wp_aload D_201 rfl rfl ?_
        refine wp_virtual (c_clr l Z a0 hw a8 m9 q50 [(m9, oA .char ys49), (a1, oA .char [(nar .char (a &&& (255 : Int32)).toUInt32.toUInt16.toUInt32.toInt32), (nar .char (b &&& (255 : Int32)).toUInt32.toUInt16.toUInt32.toInt32), (nar .char (s &&& (255 : Int32)).toUInt32.toUInt16.toUInt32.toInt32), (nar .char (flag &&& (255 : Int32)).toUInt32.toUInt16.toUInt32.toInt32)])]) (exa_new (i := 0) rfl) D_203 (hw _ (List.mem_of_getElem? (i := 32) rfl)) (hw _ (List.mem_of_getElem? (i := 33) rfl)) (hw _ (List.mem_of_getElem? (i := 35) rfl)) (hw _ (List.mem_of_getElem? (i := 35) rfl)) (hw _ (List.mem_of_getElem? (i := 34) rfl)) (hw _ (List.mem_of_getElem? (i := 4) rfl)) (hw _ (List.mem_of_getElem? (i := 36) rfl)) (by decide) pd_2 rfl rfl rfl (Nat.le_of_ble_eq_true rfl) (Nat.le_of_ble_eq_true rfl) (Nat.le_of_ble_eq_true rfl) (Nat.le_of_ble_eq_true rfl) ?_
        rintro _ _ ⟨rfl, rfl⟩
        show Wp false l Z "com/example/prim_canon/primcanon/output/HeldTextIsEmptyPinLaw" "law" code maxLocals ret room_1 [(a8, oI "com/example/prim_canon/primcanon/output/HeldText" sg_1 [(.ref m9), (.long (0 : Int64)), (.int (0 : Int32)), (.null)]), (m9, oA .char ys49), (a1, oA .char [(nar .char (a &&& (255 : Int32)).toUInt32.toUInt16.toUInt32.toInt32), (nar .char (b &&& (255 : Int32)).toUInt32.toUInt16.toUInt32.toInt32), (nar .char (s &&& (255 : Int32)).toUInt32.toUInt16.toUInt32.toInt32), (nar .char (flag &&& (255 : Int32)).toUInt32.toUInt16.toUInt32.toInt32)])] 3 266 206 #[.val (.int a), .val (.int b), .val (.int s), .val (.int flag), .val (.ref a1), .val (.int x2), .val (.int x3), .val (.int x4), .val (.int x5), .val (.int x6), .val (.int x7), .val (.ref a8), .val (.int (1 : Int32))] [] Q_law
        refine wp_iload D_206 rfl ?_
        refine wp_if_eq D_208 (pc'' := 223) ⟨by decide, by decide⟩ (fun h69 => by exact absurd h69 (by decide)) (fun h69 => ?_)
        refine wp_aload D_211 rfl rfl ?_
        refine wp_virtual (c_emp l Z a0 hw a8 m9 (0 : Int32) [(m9, oA .char ys49), (a1, oA .char [(nar .char (a &&& (255 : Int32)).toUInt32.toUInt16.toUInt32.toInt32), (nar .char (b &&& (255 : Int32)).toUInt32.toUInt16.toUInt32.toInt32), (nar .char (s &&& (255 : Int32)).toUInt32.toUInt16.toUInt32.toInt32), (nar .char (flag &&& (255 : Int32)).toUInt32.toUInt16.toUInt32.toInt32)])]) (exa_new (i := 0) rfl) D_213 (hw _ (List.mem_of_getElem? (i := 13) rfl)) (hw _ (List.mem_of_getElem? (i := 14) rfl)) (hw _ (List.mem_of_getElem? (i := 16) rfl)) (hw _ (List.mem_of_getElem? (i := 16) rfl)) (hw _ (List.mem_of_getElem? (i := 15) rfl)) (hw _ (List.mem_of_getElem? (i := 4) rfl)) (hw _ (List.mem_of_getElem? (i := 17) rfl)) (by decide) pd_3 rfl rfl rfl (Nat.le_of_ble_eq_true rfl) (Nat.le_of_ble_eq_true rfl) (Nat.le_of_ble_eq_true rfl) (Nat.le_of_ble_eq_true rfl) ?_
        rintro _ _ ⟨rfl, rfl⟩
        rw [if_pos (by decide)]
        show Wp false l Z "com/example/prim_canon/primcanon/output/HeldTextIsEmptyPinLaw" "law" code maxLocals ret room_1 [(a8, oI "com/example/prim_canon/primcanon/output/HeldText" sg_1 [(.ref m9), (.long (0 : Int64)), (.int (0 : Int32)), (.null)]), (m9, oA .char ys49), (a1, oA .char [(nar .char (a &&& (255 : Int32)).toUInt32.toUInt16.toUInt32.toInt32), (nar .char (b &&& (255 : Int32)).toUInt32.toUInt16.toUInt32.toInt32), (nar .char (s &&& (255 : Int32)).toUInt32.toUInt16.toUInt32.toInt32), (nar .char (flag &&& (255 : Int32)).toUInt32.toUInt16.toUInt32.toInt32)])] 3 266 216 #[.val (.int a), .val (.int b), .val (.int s), .val (.int flag), .val (.ref a1), .val (.int x2), .val (.int x3), .val (.int x4), .val (.int x5), .val (.int x6), .val (.int x7), .val (.ref a8), .val (.int (1 : Int32))] [(.int (1 : Int32))] Q_law
        refine wp_if_eq D_216 (pc'' := 223) ⟨by decide, by decide⟩ (fun h70 => by exact absurd h70 (by decide)) (fun h70 => ?_)
        refine wp_iconst 1 D_219 (by decide) ?_
        refine wp_goto D_220 (pc'' := 224) ⟨by decide, by decide⟩ ?_
        refine wp_istore #[.val (.int a), .val (.int b), .val (.int s), .val (.int flag), .val (.ref a1), .val (.int x2), .val (.int x3), .val (.int x4), .val (.int x5), .val (.int x6), .val (.int x7), .val (.ref a8), .val (.int (1 : Int32))] D_224 rfl ?_
        refine wp_aload D_226 rfl rfl ?_
        refine wp_aload D_228 rfl rfl ?_
        refine wp_iload D_230 rfl ?_
        refine wp_iload D_232 rfl ?_
        refine wp_virtual (c_app l Z a0 hw a8 a1 m9 x7 x6 (0 : Int32) [(nar .char (a &&& (255 : Int32)).toUInt32.toUInt16.toUInt32.toInt32), (nar .char (b &&& (255 : Int32)).toUInt32.toUInt16.toUInt32.toInt32), (nar .char (s &&& (255 : Int32)).toUInt32.toUInt16.toUInt32.toInt32), (nar .char (flag &&& (255 : Int32)).toUInt32.toUInt16.toUInt32.toInt32)] ys49 [] hl_ys49 rfl (by first | decide | (simp only [Int32.reduceToInt] at *; omega) | omega) (by first | decide | (simp only [Int32.reduceToInt] at *; omega) | omega) (by first | decide | (simp only [Int32.reduceToInt] at *; omega) | omega) (by first | decide | (simp only [Int32.reduceToInt] at *; omega) | omega) (by first | decide | (simp only [Int32.reduceToInt] at *; omega) | omega)) (exa_new (i := 0) rfl) D_234 (hw _ (List.mem_of_getElem? (i := 22) rfl)) (hw _ (List.mem_of_getElem? (i := 23) rfl)) (hw _ (List.mem_of_getElem? (i := 25) rfl)) (hw _ (List.mem_of_getElem? (i := 25) rfl)) (hw _ (List.mem_of_getElem? (i := 24) rfl)) (hw _ (List.mem_of_getElem? (i := 4) rfl)) (hw _ (List.mem_of_getElem? (i := 26) rfl)) (by decide) pd_4 rfl rfl rfl (Nat.le_of_ble_eq_true rfl) (Nat.le_of_ble_eq_true rfl) (Nat.le_of_ble_eq_true rfl) (Nat.le_of_ble_eq_true rfl) ?_
        rintro _ _ ⟨rfl, ys71, hl_ys71, rfl⟩
        show Wp false l Z "com/example/prim_canon/primcanon/output/HeldTextIsEmptyPinLaw" "law" code maxLocals ret room_1 [(a8, oI "com/example/prim_canon/primcanon/output/HeldText" sg_1 [(.ref m9), (.long (0 : Int64)), (.int ((0 : Int32) + x6)), (.null)]), (m9, oA .char ys71), (a1, oA .char [(nar .char (a &&& (255 : Int32)).toUInt32.toUInt16.toUInt32.toInt32), (nar .char (b &&& (255 : Int32)).toUInt32.toUInt16.toUInt32.toInt32), (nar .char (s &&& (255 : Int32)).toUInt32.toUInt16.toUInt32.toInt32), (nar .char (flag &&& (255 : Int32)).toUInt32.toUInt16.toUInt32.toInt32)])] 3 266 237 #[.val (.int a), .val (.int b), .val (.int s), .val (.int flag), .val (.ref a1), .val (.int x2), .val (.int x3), .val (.int x4), .val (.int x5), .val (.int x6), .val (.int x7), .val (.ref a8), .val (.int (1 : Int32))] [] Q_law
        have hs_q72 := own_sum (0 : Int32) x6 (by first | decide | (simp only [Int32.reduceToInt] at *; omega) | omega) (by first | decide | (simp only [Int32.reduceToInt] at *; omega) | omega) (by first | decide | (simp only [Int32.reduceToInt] at *; omega) | omega)
        generalize hg_q72 : ((0 : Int32) + x6) = q72 at *
        show Wp false l Z "com/example/prim_canon/primcanon/output/HeldTextIsEmptyPinLaw" "law" code maxLocals ret room_1 [(a8, oI "com/example/prim_canon/primcanon/output/HeldText" sg_1 [(.ref m9), (.long (0 : Int64)), (.int q72), (.null)]), (m9, oA .char ys71), (a1, oA .char [(nar .char (a &&& (255 : Int32)).toUInt32.toUInt16.toUInt32.toInt32), (nar .char (b &&& (255 : Int32)).toUInt32.toUInt16.toUInt32.toInt32), (nar .char (s &&& (255 : Int32)).toUInt32.toUInt16.toUInt32.toInt32), (nar .char (flag &&& (255 : Int32)).toUInt32.toUInt16.toUInt32.toInt32)])] 3 266 237 #[.val (.int a), .val (.int b), .val (.int s), .val (.int flag), .val (.ref a1), .val (.int x2), .val (.int x3), .val (.int x4), .val (.int x5), .val (.int x6), .val (.int x7), .val (.ref a8), .val (.int (1 : Int32))] [] Q_law
        refine wp_iload D_237 rfl ?_
        refine wp_if_eq D_239 (pc'' := 264) ⟨by decide, by decide⟩ (fun h73 => by exact absurd h73 (by decide)) (fun h73 => ?_)
        refine wp_aload D_242 rfl rfl ?_
        refine wp_virtual (c_emp l Z a0 hw a8 m9 q72 [(m9, oA .char ys71), (a1, oA .char [(nar .char (a &&& (255 : Int32)).toUInt32.toUInt16.toUInt32.toInt32), (nar .char (b &&& (255 : Int32)).toUInt32.toUInt16.toUInt32.toInt32), (nar .char (s &&& (255 : Int32)).toUInt32.toUInt16.toUInt32.toInt32), (nar .char (flag &&& (255 : Int32)).toUInt32.toUInt16.toUInt32.toInt32)])]) (exa_new (i := 0) rfl) D_244 (hw _ (List.mem_of_getElem? (i := 13) rfl)) (hw _ (List.mem_of_getElem? (i := 14) rfl)) (hw _ (List.mem_of_getElem? (i := 16) rfl)) (hw _ (List.mem_of_getElem? (i := 16) rfl)) (hw _ (List.mem_of_getElem? (i := 15) rfl)) (hw _ (List.mem_of_getElem? (i := 4) rfl)) (hw _ (List.mem_of_getElem? (i := 17) rfl)) (by decide) pd_3 rfl rfl rfl (Nat.le_of_ble_eq_true rfl) (Nat.le_of_ble_eq_true rfl) (Nat.le_of_ble_eq_true rfl) (Nat.le_of_ble_eq_true rfl) ?_
        rintro _ _ ⟨rfl, rfl⟩
        by_cases hp74 : q72.toInt = 0
        · rw [if_pos hp74]
          show Wp false l Z "com/example/prim_canon/primcanon/output/HeldTextIsEmptyPinLaw" "law" code maxLocals ret room_1 [(a8, oI "com/example/prim_canon/primcanon/output/HeldText" sg_1 [(.ref m9), (.long (0 : Int64)), (.int q72), (.null)]), (m9, oA .char ys71), (a1, oA .char [(nar .char (a &&& (255 : Int32)).toUInt32.toUInt16.toUInt32.toInt32), (nar .char (b &&& (255 : Int32)).toUInt32.toUInt16.toUInt32.toInt32), (nar .char (s &&& (255 : Int32)).toUInt32.toUInt16.toUInt32.toInt32), (nar .char (flag &&& (255 : Int32)).toUInt32.toUInt16.toUInt32.toInt32)])] 3 266 247 #[.val (.int a), .val (.int b), .val (.int s), .val (.int flag), .val (.ref a1), .val (.int x2), .val (.int x3), .val (.int x4), .val (.int x5), .val (.int x6), .val (.int x7), .val (.ref a8), .val (.int (1 : Int32))] [(.int (1 : Int32))] Q_law
          refine wp_iload D_247 rfl ?_
          refine wp_if_ne D_249 (pc'' := 256) ⟨by decide, by decide⟩ (fun h75 => by exfalso; (simp only [Int32.lt_iff_toInt_lt, Int32.le_iff_toInt_le, ← Int32.toInt_inj, Int32.reduceToInt, Int64.lt_iff_toInt_lt, ← Int64.toInt_inj, Int64.reduceToInt] at *; omega)) (fun h75 => ?_)
          refine wp_iconst 1 D_252 (by decide) ?_
          refine wp_goto D_253 (pc'' := 257) ⟨by decide, by decide⟩ ?_
          refine wp_icmp_ne D_257 (pc'' := 264) ⟨by decide, by decide⟩ (fun h76 => by exact absurd h76 (by decide)) (fun h76 => ?_)
          refine wp_iconst 1 D_260 (by decide) ?_
          refine wp_goto D_261 (pc'' := 265) ⟨by decide, by decide⟩ ?_
          refine wp_istore #[.val (.int a), .val (.int b), .val (.int s), .val (.int flag), .val (.ref a1), .val (.int x2), .val (.int x3), .val (.int x4), .val (.int x5), .val (.int x6), .val (.int x7), .val (.ref a8), .val (.int (1 : Int32))] D_265 rfl ?_
          refine wp_iload D_267 rfl ?_
          refine wp_ireturnN D_269 rfl (by simp) (by decide) (by decide) ?_
          exact rfl
        · rw [if_neg hp74]
          show Wp false l Z "com/example/prim_canon/primcanon/output/HeldTextIsEmptyPinLaw" "law" code maxLocals ret room_1 [(a8, oI "com/example/prim_canon/primcanon/output/HeldText" sg_1 [(.ref m9), (.long (0 : Int64)), (.int q72), (.null)]), (m9, oA .char ys71), (a1, oA .char [(nar .char (a &&& (255 : Int32)).toUInt32.toUInt16.toUInt32.toInt32), (nar .char (b &&& (255 : Int32)).toUInt32.toUInt16.toUInt32.toInt32), (nar .char (s &&& (255 : Int32)).toUInt32.toUInt16.toUInt32.toInt32), (nar .char (flag &&& (255 : Int32)).toUInt32.toUInt16.toUInt32.toInt32)])] 3 266 247 #[.val (.int a), .val (.int b), .val (.int s), .val (.int flag), .val (.ref a1), .val (.int x2), .val (.int x3), .val (.int x4), .val (.int x5), .val (.int x6), .val (.int x7), .val (.ref a8), .val (.int (1 : Int32))] [(.int (0 : Int32))] Q_law
          refine wp_iload D_247 rfl ?_
          refine wp_if_ne D_249 (pc'' := 256) ⟨by decide, by decide⟩ (fun h77 => ?_) (fun h77 => by exfalso; (simp only [Int32.lt_iff_toInt_lt, Int32.le_iff_toInt_le, ← Int32.toInt_inj, Int32.reduceToInt, Int64.lt_iff_toInt_lt, ← Int64.toInt_inj, Int64.reduceToInt] at *; omega))
          refine wp_iconst 0 D_256 (by decide) ?_
          refine wp_icmp_ne D_257 (pc'' := 264) ⟨by decide, by decide⟩ (fun h78 => by exact absurd h78 (by decide)) (fun h78 => ?_)
          refine wp_iconst 1 D_260 (by decide) ?_
          refine wp_goto D_261 (pc'' := 265) ⟨by decide, by decide⟩ ?_
          refine wp_istore #[.val (.int a), .val (.int b), .val (.int s), .val (.int flag), .val (.ref a1), .val (.int x2), .val (.int x3), .val (.int x4), .val (.int x5), .val (.int x6), .val (.int x7), .val (.ref a8), .val (.int (1 : Int32))] D_265 rfl ?_
          refine wp_iload D_267 rfl ?_
          refine wp_ireturnN D_269 rfl (by simp) (by decide) (by decide) ?_
          exact rfl
set_option maxRecDepth 65536 in
set_option maxHeartbeats 40000000 in
theorem comes_1 {Post : Tables → Env → Array Value → State → Outcome → State → Prop} (hpost : ∀ tb e args s v u, (limb_1_1.after args s (.returned v) u = true ∧ limb_1_2.after args s (.returned v) u = true ∧ True) → FrameEnd s (.returned v) u (Jvm.fieldLocs frame_1_writes args s ++ Jvm.arrayLocs frame_1_arrays args s ++ Jvm.staticLocs frame_1_statics s) 16 640 → Post tb e args s (.returned v) u) :
    ArmFor flags0 classFile x code maxLocals ret World_1 tables_1 room_1 Calls_1 rest_1 Pre_1 Post := by
  intro l hfl _ _ p e ha hc hk s m args below hf hA hF happ hP
  obtain ⟨hcalls, hrest, hpre⟩ := hP
  obtain ⟨-, -, -, hnamed, -, -, -, hat⟩ := (Spec.applies_iff hf).mp happ
  obtain ⟨hg, hn⟩ := and_e (Cond.before_iff.mp (show (Jvm.Cond.and given_1 narrow_1).before args s = true from hpre))
  obtain ⟨hcnt, hk0⟩ := and_e hg
  obtain ⟨hz0, hk1⟩ := and_e hk0
  obtain ⟨hz1, hk2⟩ := and_e hk1
  obtain ⟨hz2, hk3⟩ := and_e hk2
  have hz3 := hk3
  obtain ⟨w0, w1, w2, w3, rfl⟩ : ∃ w0 w1 w2 w3 : Value, args = #[w0, w1, w2, w3] := by
    have hs : args.size = 4 := by simpa [Cond.value, given_1] using hcnt
    obtain ⟨L⟩ := args
    match L, hs with
    | [w0, w1, w2, w3], _ => exact ⟨w0, w1, w2, w3, rfl⟩
  have hw := fun d (hd : d ∈ tables_1) => atoms_spec (ws := Jvm.Cond.code x code maxLocals ret :: tables_1) hat d (List.mem_cons_of_mem _ hd)
  have hfit : Fit s := fun {y c} hc i hi => by
    obtain ⟨ha, rfl⟩ := Array.getElem?_eq_some_iff.mp hc
    have q := List.all_eq_true.mp ((Array.all_eq_true_iff_forall_mem.mp hF) _ (Array.getElem_mem ha)) i (List.mem_range.mpr hi)
    simpa [Array.getElem?_eq_getElem hi] using q
  obtain ⟨a, e0⟩ := is_v hz0
  obtain rfl : w0 = (.int a) := Option.some.inj e0
  obtain ⟨b, e1⟩ := is_v hz1
  obtain rfl : w1 = (.int b) := Option.some.inj e1
  obtain ⟨s_, e2⟩ := is_v hz2
  obtain rfl : w2 = (.int s_) := Option.some.inj e2
  obtain ⟨flag, e3⟩ := is_v hz3
  obtain rfl : w3 = (.int flag) := Option.some.inj e3
  have hm := law_wp l s _ hw a b s_ flag 
  obtain ⟨n, o, h1, h2, h3, v, L, rfl, ⟨N, -, H', -, hQ⟩, hq⟩ := Met.of_wp (y := x) (as' := [(.int a), (.int b), (.int s_), (.int flag)]) pn_5 (fun m => by first | rfl | (simp [entryFrame, mkF, argsToLocals, Value.category, maxLocals]; done)) hm tables_1 s.heap (Hp.nil s) p e ha hc hk s m _ below hf ((Spec.applies_iff_loose hf).mp happ).1 ⟨rfl, State.Warmed39.refl s, rfl⟩ trivial
  obtain rfl : v = some (.int 1) := hQ
  refine ⟨n, _, h1, h2, h3, hpost _ _ _ _ _ _ ⟨Cond.after_iff.mpr rfl, Cond.after_iff.mpr (eq_i res_at (Term.int_eval (1)) rfl), trivial⟩ ⟨hq.1, hq.2.1, (hq.2.2.sift fun y hy => Or.inr (N y hy)).mono (by decide) (by decide)⟩⟩
theorem main_1_1 : Claimed_1_1 := comes_1 fun _ _ _ _ _ _ h hF => ⟨h.1, hF⟩
theorem main_1_2 : Claimed_1_2 := comes_1 fun _ _ _ _ _ _ h hF => ⟨h.2.1, hF⟩
end Jvm.Pilot.@@N@@
namespace Jvm.Pilot.@@N@@
open Jvm Jvm.ClassFile Sem Op Lib Jvm.Free Jvm.Stand Jvm.Pilot.@@N@@.Jvm.D
/-! MADE BY PROGRAM (witnessworld.py) out of the Statement's table words and the real class files: 14 classes; the members and pool entries that the words name. The judged class is class 1, her method 1. -/
namespace start1
open Jvm.ClassFile
def u (s : String) : CpInfo := .utf8 (stringToUtf16 s)
/-- a pool by its gaps: so many unusable entries, then the entry; so many at the end -/
def gap : Nat → List CpInfo → List CpInfo
  | 0, r => r
  | n + 1, r => .unusable :: gap n r
def poolList (es : List (Nat × CpInfo)) (last : Nat) : List CpInfo := es.foldr (fun e r => gap e.1 (e.2 :: r)) (gap last [])
def pool (es : List (Nat × CpInfo)) (last : Nat) : Array CpInfo := ⟨poolList es last⟩
def fileOf (pool : Array CpInfo) (this : Nat) (attrs : Array Attribute := #[]) (ms : Array MethodInfo := #[]) (fl : Nat := 33) (sup : Nat := 0) (ifs : Array Nat := #[]) (fds : Array FieldInfo := #[]) : ClassFile where
  minorVersion := 0
  majorVersion := 65
  constantPool := pool
  accessFlags := fl
  thisClass := this
  superClass := sup
  interfaces := ifs
  fields := fds
  methods := ms
  attributes := attrs
def plain (name : String) (sup : Option ClassId) : Class where
  name := name
  kind := .ordinary
  loader := none
  accessFlags := 33
  super := sup
  interfaces := #[]
  cf := none
  fields := #[]
  methods := #[]
  instanceTypes := #[]
  staticTypes := #[]
  resolved := #[]
  callSites := []
  init := .initialized
  statics := none
  mirror := none

def pool0 : Array CpInfo := pool [(5, u "<init>"), (0, u "()V"), (1, .class_ 10), (1, u "java/lang/Object")] 113

def k0c0 : Code := { maxStack := 0, maxLocals := 1, code := object_method_1_code, exceptionTable := #[], attributes := #[] }
def k0m0 : Method := { name := "<init>", desc := "()V", sig := { parameters := [], returnType := none }, accessFlags := 1, code := some k0c0 }
/-- java/lang/Object -/
def k0 : Class := { plain "java/lang/Object" none with
  accessFlags := 33
  interfaces := #[]
  cf := some (fileOf pool0 8 #[] #[{ accessFlags := 1, nameIndex := 5, descriptorIndex := 6, attributes := #[] }] 33 0 #[] #[])
  fields := #[]
  methods := #[k0m0]
  instanceTypes := #[]
  staticTypes := #[]
  resolved := Array.replicate 124 none
  statics := none }

def pool1 : Array CpInfo := pool [(2, .class_ 4), (0, .nameAndType 5 6), (0, u "java/lang/Object"), (0, u "<init>"), (0, u "()V"), (0, .integer 2147483647), (0, .class_ 9), (0, u "com/example/prim_canon/primcanon/output/HeldText"), (0, .methodref 8 3), (0, .methodref 8 12), (0, .nameAndType 13 14), (0, u "isEmpty"), (0, u "()Z"), (0, .methodref 8 16), (0, .nameAndType 17 18), (0, u "append"), (0, u "([CII)V"), (0, .methodref 8 20), (0, .nameAndType 21 6), (0, u "clear"), (0, .class_ 23), (0, u "com/example/prim_canon/primcanon/output/HeldTextIsEmptyPinLaw"), (2, u "law"), (0, u "(IIII)Z")] 8

def k1m0 : Method := { name := "<init>", desc := "()V", sig := { parameters := [], returnType := none }, accessFlags := 1, code := none }
def k1c1 : Code := { maxStack := 4, maxLocals := 13, code := code, exceptionTable := #[], attributes := #[] }
def k1m1 : Method := { name := "law", desc := "(IIII)Z", sig := { parameters := [.int, .int, .int, .int], returnType := some .boolean }, accessFlags := 9, code := some k1c1 }
/-- com/example/prim_canon/primcanon/output/HeldTextIsEmptyPinLaw -/
def k1 : Class := { plain "com/example/prim_canon/primcanon/output/HeldTextIsEmptyPinLaw" (some 0) with
  accessFlags := 49
  interfaces := #[]
  cf := some (fileOf pool1 22 #[] #[{ accessFlags := 1, nameIndex := 5, descriptorIndex := 6, attributes := #[] }, { accessFlags := 9, nameIndex := 26, descriptorIndex := 27, attributes := #[] }] 49 2 #[] #[])
  fields := #[]
  methods := #[k1m0, k1m1]
  instanceTypes := #[]
  staticTypes := #[]
  resolved := Array.replicate 36 none
  statics := none }

def pool2 : Array CpInfo := pool [(1, .class_ 2), (0, u "java/lang/AutoCloseable"), (0, .class_ 4), (0, u "java/lang/Object")] 7

/-- java/lang/AutoCloseable -/
def k2 : Class := { plain "java/lang/AutoCloseable" (some 0) with
  accessFlags := 1537
  interfaces := #[]
  cf := some (fileOf pool2 1 #[] #[] 1537 3 #[] #[])
  fields := #[]
  methods := #[]
  instanceTypes := #[]
  staticTypes := #[]
  resolved := Array.replicate 12 none
  statics := none }

def pool3 : Array CpInfo := pool [(1, .class_ 2), (0, u "java/io/Closeable"), (0, .class_ 4), (0, u "java/lang/Object"), (0, .class_ 6), (0, u "java/lang/AutoCloseable")] 7

/-- java/io/Closeable -/
def k3 : Class := { plain "java/io/Closeable" (some 0) with
  accessFlags := 1537
  interfaces := #[2]
  cf := some (fileOf pool3 1 #[] #[] 1537 3 #[5] #[])
  fields := #[]
  methods := #[]
  instanceTypes := #[]
  staticTypes := #[]
  resolved := Array.replicate 14 none
  statics := none }

def pool4 : Array CpInfo := pool [(1, .methodref 2 3), (0, .class_ 4), (0, .nameAndType 5 6), (0, u "java/lang/Object"), (0, u "<init>"), (0, u "()V"), (0, .class_ 8), (0, u "com/example/prim_canon/primcanon/output/HeldText"), (0, .fieldref 7 10), (0, .nameAndType 11 12), (0, u "memory"), (0, u "[C"), (12, u "append"), (0, u "([CII)V"), (0, .fieldref 7 28), (0, .nameAndType 29 30), (0, u "inMemory"), (0, u "I"), (0, .integer 65536), (18, .methodref 51 52), (0, .class_ 53), (0, .nameAndType 54 55), (0, u "java/lang/System"), (0, u "arraycopy"), (0, u "(Ljava/lang/Object;ILjava/lang/Object;II)V"), (0, .fieldref 7 57), (0, .nameAndType 58 59), (0, u "inFile"), (0, u "J"), (4, u "bytes"), (0, u "Ljava/nio/ByteBuffer;"), (4, u "clear"), (4, u "()Z"), (3, .fieldref 7 80), (0, .nameAndType 81 82), (0, u "file"), (0, u "Ljava/nio/channels/FileChannel;"), (15, u "chars"), (0, u "Ljava/nio/CharBuffer;"), (10, .class_ 112), (1, u "com/example/prim_canon/primcanon/output/HeldText$Sink"), (56, .class_ 170), (0, u "java/io/Closeable"), (0, u "IN_MEMORY"), (1, u "FIRST_CAPACITY"), (1, u "FILE_PREFIX"), (0, u "Ljava/lang/String;"), (4, u "isEmpty")] 8

def k4c0 : Code := { maxStack := 2, maxLocals := 1, code := prog_23_method_1_code, exceptionTable := #[], attributes := #[] }
def k4m0 : Method := { name := "<init>", desc := "()V", sig := { parameters := [], returnType := none }, accessFlags := 1, code := some k4c0 }
def k4c1 : Code := { maxStack := 6, maxLocals := 4, code := prog_23_method_3_code, exceptionTable := #[], attributes := #[] }
def k4m1 : Method := { name := "append", desc := "([CII)V", sig := { parameters := [(.array .char), .int, .int], returnType := none }, accessFlags := 1, code := some k4c1 }
def k4c2 : Code := { maxStack := 4, maxLocals := 1, code := prog_23_method_4_code, exceptionTable := #[], attributes := #[] }
def k4m2 : Method := { name := "isEmpty", desc := "()Z", sig := { parameters := [], returnType := some .boolean }, accessFlags := 1, code := some k4c2 }
def k4c3 : Code := { maxStack := 4, maxLocals := 1, code := prog_23_method_6_code, exceptionTable := #[], attributes := #[] }
def k4m3 : Method := { name := "clear", desc := "()V", sig := { parameters := [], returnType := none }, accessFlags := 1, code := some k4c3 }
/-- com/example/prim_canon/primcanon/output/HeldText -/
def k4 : Class := { plain "com/example/prim_canon/primcanon/output/HeldText" (some 0) with
  accessFlags := 49
  interfaces := #[3]
  cf := some (fileOf pool4 7 #[.nestMembers #[110]] #[{ accessFlags := 1, nameIndex := 5, descriptorIndex := 6, attributes := #[] }, { accessFlags := 1, nameIndex := 25, descriptorIndex := 26, attributes := #[] }, { accessFlags := 1, nameIndex := 181, descriptorIndex := 75, attributes := #[] }, { accessFlags := 1, nameIndex := 70, descriptorIndex := 6, attributes := #[] }] 49 2 #[169] #[{ accessFlags := 26, nameIndex := 171, descriptorIndex := 30, attributes := #[] }, { accessFlags := 26, nameIndex := 173, descriptorIndex := 30, attributes := #[] }, { accessFlags := 26, nameIndex := 175, descriptorIndex := 176, attributes := #[] }, { accessFlags := 2, nameIndex := 11, descriptorIndex := 12, attributes := #[] }, { accessFlags := 2, nameIndex := 29, descriptorIndex := 30, attributes := #[] }, { accessFlags := 2, nameIndex := 81, descriptorIndex := 82, attributes := #[] }, { accessFlags := 2, nameIndex := 64, descriptorIndex := 65, attributes := #[] }, { accessFlags := 2, nameIndex := 98, descriptorIndex := 99, attributes := #[] }, { accessFlags := 2, nameIndex := 58, descriptorIndex := 59, attributes := #[] }])
  fields := #[{ name := "IN_MEMORY", type := .int, accessFlags := 26, slot := 0, constantValue := 0 }, { name := "FIRST_CAPACITY", type := .int, accessFlags := 26, slot := 1, constantValue := 0 }, { name := "FILE_PREFIX", type := (.object "java/lang/String"), accessFlags := 26, slot := 2, constantValue := 0 }, { name := "memory", type := (.array .char), accessFlags := 2, slot := 0, constantValue := 0 }, { name := "inMemory", type := .int, accessFlags := 2, slot := 1, constantValue := 0 }, { name := "file", type := (.object "java/nio/channels/FileChannel"), accessFlags := 2, slot := 2, constantValue := 0 }, { name := "bytes", type := (.object "java/nio/ByteBuffer"), accessFlags := 2, slot := 3, constantValue := 0 }, { name := "chars", type := (.object "java/nio/CharBuffer"), accessFlags := 2, slot := 4, constantValue := 0 }, { name := "inFile", type := .long, accessFlags := 2, slot := 5, constantValue := 0 }]
  methods := #[k4m0, k4m1, k4m2, k4m3]
  instanceTypes := #[(.array .char), .int, (.object "java/nio/channels/FileChannel"), (.object "java/nio/ByteBuffer"), (.object "java/nio/CharBuffer"), .long]
  staticTypes := #[.int, .int, (.object "java/lang/String")]
  resolved := Array.replicate 190 none
  statics := none }

def pool5 : Array CpInfo := pool [(2, .class_ 4), (1, u "java/lang/Object"), (0, u "<init>"), (0, u "()V"), (1, .class_ 10), (1, u "java/lang/System"), (0, u "allowSecurityManager"), (0, u "I"), (16, u "cons"), (0, u "Ljava/io/Console;"), (77, .class_ 110), (1, u "java/lang/System$CallersHolder"), (43, u "initialErrStream"), (0, u "Ljava/io/PrintStream;"), (19, u "security"), (0, u "Ljava/lang/SecurityManager;"), (31, .class_ 209), (0, u "java/lang/System$1"), (7, u "props"), (0, u "Ljava/util/Properties;"), (2, u "lineSeparator"), (0, u "Ljava/lang/String;"), (96, .class_ 321), (1, u "java/lang/System$LoggerFinder"), (5, .class_ 328), (0, u "java/lang/System$Logger"), (67, u "err"), (2, u "out"), (91, u "notSupportedJnuEncoding"), (15, u "in"), (17, u "initialIn"), (0, u "Ljava/io/InputStream;"), (35, u "bootLayer"), (0, u "Ljava/lang/ModuleLayer;"), (99, .class_ 664), (0, u "java/lang/System$2"), (9, u "NEVER"), (2, u "MAYBE"), (49, u "arraycopy"), (0, u "(Ljava/lang/Object;ILjava/lang/Object;II)V"), (72, .class_ 802), (0, u "java/lang/System$Logger$Level")] 31

def k5m0 : Method := { name := "<init>", desc := "()V", sig := { parameters := [], returnType := none }, accessFlags := 2, code := none }
def k5m1 : Method := { name := "arraycopy", desc := "(Ljava/lang/Object;ILjava/lang/Object;II)V", sig := { parameters := [(.object "java/lang/Object"), .int, (.object "java/lang/Object"), .int, .int], returnType := none }, accessFlags := 265, code := none }
/-- java/lang/System -/
def k5 : Class := { plain "java/lang/System" (some 0) with
  accessFlags := 49
  interfaces := #[]
  cf := some (fileOf pool5 8 #[.nestMembers #[319, 327, 801, 108, 663, 208]] #[{ accessFlags := 2, nameIndex := 5, descriptorIndex := 6, attributes := #[] }, { accessFlags := 265, nameIndex := 727, descriptorIndex := 728, attributes := #[] }] 49 2 #[] #[{ accessFlags := 25, nameIndex := 507, descriptorIndex := 526, attributes := #[] }, { accessFlags := 25, nameIndex := 399, descriptorIndex := 155, attributes := #[] }, { accessFlags := 25, nameIndex := 396, descriptorIndex := 155, attributes := #[] }, { accessFlags := 10, nameIndex := 525, descriptorIndex := 526, attributes := #[] }, { accessFlags := 26, nameIndex := 674, descriptorIndex := 12, attributes := #[] }, { accessFlags := 26, nameIndex := 677, descriptorIndex := 12, attributes := #[] }, { accessFlags := 10, nameIndex := 11, descriptorIndex := 12, attributes := #[] }, { accessFlags := 74, nameIndex := 175, descriptorIndex := 176, attributes := #[] }, { accessFlags := 10, nameIndex := 491, descriptorIndex := 222, attributes := #[] }, { accessFlags := 74, nameIndex := 29, descriptorIndex := 30, attributes := #[] }, { accessFlags := 74, nameIndex := 154, descriptorIndex := 155, attributes := #[] }, { accessFlags := 10, nameIndex := 217, descriptorIndex := 218, attributes := #[] }, { accessFlags := 10, nameIndex := 221, descriptorIndex := 222, attributes := #[] }, { accessFlags := 8, nameIndex := 562, descriptorIndex := 563, attributes := #[] }])
  fields := #[{ name := "in", type := (.object "java/io/InputStream"), accessFlags := 25, slot := 0, constantValue := 0 }, { name := "out", type := (.object "java/io/PrintStream"), accessFlags := 25, slot := 1, constantValue := 0 }, { name := "err", type := (.object "java/io/PrintStream"), accessFlags := 25, slot := 2, constantValue := 0 }, { name := "initialIn", type := (.object "java/io/InputStream"), accessFlags := 10, slot := 3, constantValue := 0 }, { name := "NEVER", type := .int, accessFlags := 26, slot := 4, constantValue := 0 }, { name := "MAYBE", type := .int, accessFlags := 26, slot := 5, constantValue := 0 }, { name := "allowSecurityManager", type := .int, accessFlags := 10, slot := 6, constantValue := 0 }, { name := "security", type := (.object "java/lang/SecurityManager"), accessFlags := 74, slot := 7, constantValue := 0 }, { name := "notSupportedJnuEncoding", type := (.object "java/lang/String"), accessFlags := 10, slot := 8, constantValue := 0 }, { name := "cons", type := (.object "java/io/Console"), accessFlags := 74, slot := 9, constantValue := 0 }, { name := "initialErrStream", type := (.object "java/io/PrintStream"), accessFlags := 74, slot := 10, constantValue := 0 }, { name := "props", type := (.object "java/util/Properties"), accessFlags := 10, slot := 11, constantValue := 0 }, { name := "lineSeparator", type := (.object "java/lang/String"), accessFlags := 10, slot := 12, constantValue := 0 }, { name := "bootLayer", type := (.object "java/lang/ModuleLayer"), accessFlags := 8, slot := 13, constantValue := 0 }]
  methods := #[k5m0, k5m1]
  instanceTypes := #[]
  staticTypes := #[(.object "java/io/InputStream"), (.object "java/io/PrintStream"), (.object "java/io/PrintStream"), (.object "java/io/InputStream"), .int, .int, .int, (.object "java/lang/SecurityManager"), (.object "java/lang/String"), (.object "java/io/Console"), (.object "java/io/PrintStream"), (.object "java/util/Properties"), (.object "java/lang/String"), (.object "java/lang/ModuleLayer")]
  resolved := Array.replicate 834 none
  statics := none }

def pool6 : Array CpInfo := pool [(1, u "java/lang/Cloneable"), (0, .class_ 1), (0, u "java/lang/Object"), (0, .class_ 3)] 3

/-- java/lang/Cloneable -/
def k6 : Class := { plain "java/lang/Cloneable" (some 0) with
  accessFlags := 1537
  interfaces := #[]
  cf := some (fileOf pool6 2 #[] #[] 1537 4 #[] #[])
  fields := #[]
  methods := #[]
  instanceTypes := #[]
  staticTypes := #[]
  resolved := Array.replicate 8 none
  statics := none }

def pool7 : Array CpInfo := pool [(1, u "java/io/Serializable"), (0, .class_ 1), (0, u "java/lang/Object"), (0, .class_ 3)] 3

/-- java/io/Serializable -/
def k7 : Class := { plain "java/io/Serializable" (some 0) with
  accessFlags := 1537
  interfaces := #[]
  cf := some (fileOf pool7 2 #[] #[] 1537 4 #[] #[])
  fields := #[]
  methods := #[]
  instanceTypes := #[]
  staticTypes := #[]
  resolved := Array.replicate 8 none
  statics := none }

/-- the primitive byte -/
def k8 : Class := { plain "byte" none with kind := .primitive 'B', accessFlags := 0x411 }
/-- [B -/
def k9 : Class := { plain "[B" (some 0) with kind := .array 8 .byte, interfaces := #[6, 7], accessFlags := 1041 }

/-- the primitive char -/
def k10 : Class := { plain "char" none with kind := .primitive 'C', accessFlags := 0x411 }
/-- [C -/
def k11 : Class := { plain "[C" (some 0) with kind := .array 10 .char, interfaces := #[6, 7], accessFlags := 1041 }

/-- the primitive int -/
def k12 : Class := { plain "int" none with kind := .primitive 'I', accessFlags := 0x411 }
/-- [I -/
def k13 : Class := { plain "[I" (some 0) with kind := .array 12 .int, interfaces := #[6, 7], accessFlags := 1041 }

def heap : Heap := #[]
def classes : Array Class := #[k0, k1, k2, k3, k4, k5, k6, k7, k8, k9, k10, k11, k12, k13]
def interned : List (Array UInt16 × Addr) := []
def slotsUsed : Nat := 0
def theMethod : MethodId := ⟨1, 1⟩
def args0 : Array Value := #[.int 5, .int 6, .int 7, .int 8]
def aboutOver (below : List Frame) : State where
  vm := { classes := classes, interned := interned.toArray }
  heap := heap
  slotsUsed := slotsUsed
  threads := #[{ frames := .invoking theMethod args0 :: below }]
def below0 : List Frame := [.native { method := ⟨0, 0⟩, args := #[] }]
def about1 : State := aboutOver below0
def p0 : Program := .bare "" "" ""
def e0 : Env := launch0.env 0 0 0
theorem w_frames : about1.frames = Frame.invoking theMethod args0 :: below0 := rfl
set_option maxRecDepth 65536 in
theorem w_args : argsFit about1.vm theMethod args0 = true := by decide +kernel
set_option maxRecDepth 65536 in
theorem w_heap : heapFits about1 = true := by decide +kernel
set_option maxRecDepth 65536 in
theorem w_runnable : about1.curStatus? = some .runnable := by decide +kernel
set_option maxRecDepth 65536 in
theorem w_alone : about1.alone = true := by decide +kernel
set_option maxRecDepth 65536 in
theorem w_named : about1.methodNamed? x = some theMethod := by decide +kernel
set_option maxRecDepth 65536 in
theorem w_hears : about1.hears theMethod below0 = true := by decide +kernel
set_option maxRecDepth 65536 in
theorem w_ripe : about1.ripe theMethod args0 below0 = true := by decide +kernel
theorem w_running : about1.status = .running := rfl
set_option maxRecDepth 65536 in
theorem w_room : about1.hasRoom e0.platform room_1 = true :=
  launch0.hasRoom_least _ room_1 (by decide +kernel) (by decide +kernel) (by decide +kernel) (by decide +kernel) (by decide +kernel) (by decide +kernel)
theorem allAtoms_all (ts : List Jvm.Cond) (a : Array Jvm.Value) (st : Jvm.State) : (allAtoms ts).before a st = ts.all (fun c => c.before a st) := by
  induction ts with
  | nil => rfl
  | cons c t ih =>
    show (Jvm.Cond.and c (allAtoms t)).before a st = _
    rw [Jvm.Cond.before_and, ih, List.all_cons]
def words1 : List Jvm.Cond := Jvm.Cond.code x code maxLocals ret :: tables_1
/-- a 'code' word, met by the world's own term for the bytes: nothing is compared byte by byte -/
theorem code_word {y : MethodName} {bytes : ByteArray} {mx : Nat} {rt : Option FieldType} {a : Array Value} {s : State} {m : MethodId} {meth : Method} {c : Code} (h1 : s.methodNamed? y = some m) (h2 : s.vm.method? m = some meth) (h3 : meth.code = some c) (h4 : c.code = bytes)
    (h5 : (c.maxLocals == mx && c.exceptionTable.isEmpty && decide (c.maxStack ≤ mostOperands) && decide (meth.sig.returnType = rt) && !meth.locks && decide (parseMethodDescriptor y.desc = some meth.sig)) = true) : (Jvm.Cond.code y bytes mx rt).before a s = true := by
  simp only [Bool.and_eq_true, beq_iff_eq, Bool.not_eq_true', decide_eq_true_eq] at h5
  obtain ⟨⟨⟨⟨⟨g1, g2⟩, g3⟩, g4⟩, g5⟩, g6⟩ := h5
  simp [Cond.before, Cond.holds, Cond.value, h1, h2, h3, h4, g1, g2, g3, g4, g5, g6]
def isCode : Jvm.Cond → Bool
  | .code _ _ _ _ => true
  | _ => false
theorem all_split {L : List Jvm.Cond} {P : Jvm.Cond → Bool} (h1 : L.all (fun c => isCode c || P c) = true) (h2 : ∀ c ∈ L.filter isCode, P c = true) : L.all P = true := by
  refine List.all_eq_true.mpr fun c hc => ?_
  have h := List.all_eq_true.mp h1 c hc
  rcases Bool.eq_false_or_eq_true (isCode c) with hi | hi
  · exact h2 c (List.mem_filter.mpr ⟨hc, hi⟩)
  · simpa [hi] using h
set_option maxRecDepth 65536 in
theorem w_c0 : (Jvm.Cond.code x code maxLocals ret).before args0 about1 = true := code_word (m := ⟨1, 1⟩) (meth := k1m1) (c := k1c1) (by decide +kernel) rfl rfl rfl (by decide +kernel)
set_option maxRecDepth 65536 in
theorem w_c1 : (Jvm.Cond.code ({ cls := "com/example/prim_canon/primcanon/output/HeldText", name := "<init>", desc := "()V" } : Jvm.MethodName) prog_23_method_1_code (1 : Nat) (Option.none : Option Jvm.ClassFile.FieldType)).before args0 about1 = true := code_word (m := ⟨4, 0⟩) (meth := k4m0) (c := k4c0) (by decide +kernel) rfl rfl rfl (by decide +kernel)
set_option maxRecDepth 65536 in
theorem w_c2 : (Jvm.Cond.code ({ cls := "java/lang/Object", name := "<init>", desc := "()V" } : Jvm.MethodName) object_method_1_code (1 : Nat) (Option.none : Option Jvm.ClassFile.FieldType)).before args0 about1 = true := code_word (m := ⟨0, 0⟩) (meth := k0m0) (c := k0c0) (by decide +kernel) rfl rfl rfl (by decide +kernel)
set_option maxRecDepth 65536 in
theorem w_c3 : (Jvm.Cond.code ({ cls := "com/example/prim_canon/primcanon/output/HeldText", name := "isEmpty", desc := "()Z" } : Jvm.MethodName) prog_23_method_4_code (1 : Nat) (Option.some Jvm.ClassFile.FieldType.boolean)).before args0 about1 = true := code_word (m := ⟨4, 2⟩) (meth := k4m2) (c := k4c2) (by decide +kernel) rfl rfl rfl (by decide +kernel)
set_option maxRecDepth 65536 in
theorem w_c4 : (Jvm.Cond.code ({ cls := "com/example/prim_canon/primcanon/output/HeldText", name := "append", desc := "([CII)V" } : Jvm.MethodName) prog_23_method_3_code (4 : Nat) (Option.none : Option Jvm.ClassFile.FieldType)).before args0 about1 = true := code_word (m := ⟨4, 1⟩) (meth := k4m1) (c := k4c1) (by decide +kernel) rfl rfl rfl (by decide +kernel)
set_option maxRecDepth 65536 in
theorem w_c5 : (Jvm.Cond.code ({ cls := "com/example/prim_canon/primcanon/output/HeldText", name := "clear", desc := "()V" } : Jvm.MethodName) prog_23_method_6_code (1 : Nat) (Option.none : Option Jvm.ClassFile.FieldType)).before args0 about1 = true := code_word (m := ⟨4, 3⟩) (meth := k4m3) (c := k4c3) (by decide +kernel) rfl rfl rfl (by decide +kernel)
def codes1 : List Jvm.Cond := [Jvm.Cond.code x code maxLocals ret, Jvm.Cond.code ({ cls := "com/example/prim_canon/primcanon/output/HeldText", name := "<init>", desc := "()V" } : Jvm.MethodName) prog_23_method_1_code (1 : Nat) (Option.none : Option Jvm.ClassFile.FieldType), Jvm.Cond.code ({ cls := "java/lang/Object", name := "<init>", desc := "()V" } : Jvm.MethodName) object_method_1_code (1 : Nat) (Option.none : Option Jvm.ClassFile.FieldType), Jvm.Cond.code ({ cls := "com/example/prim_canon/primcanon/output/HeldText", name := "isEmpty", desc := "()Z" } : Jvm.MethodName) prog_23_method_4_code (1 : Nat) (Option.some Jvm.ClassFile.FieldType.boolean), Jvm.Cond.code ({ cls := "com/example/prim_canon/primcanon/output/HeldText", name := "append", desc := "([CII)V" } : Jvm.MethodName) prog_23_method_3_code (4 : Nat) (Option.none : Option Jvm.ClassFile.FieldType), Jvm.Cond.code ({ cls := "com/example/prim_canon/primcanon/output/HeldText", name := "clear", desc := "()V" } : Jvm.MethodName) prog_23_method_6_code (1 : Nat) (Option.none : Option Jvm.ClassFile.FieldType)]
set_option maxRecDepth 65536 in
theorem codes_eq : words1.filter isCode = codes1 := rfl
theorem w_codes : ∀ c ∈ words1.filter isCode, c.before args0 about1 = true := by
  rw [codes_eq]
  intro c hc
  simp only [codes1, List.mem_cons, List.not_mem_nil, or_false] at hc
  rcases hc with rfl | rfl | rfl | rfl | rfl | rfl
  · exact w_c0
  · exact w_c1
  · exact w_c2
  · exact w_c3
  · exact w_c4
  · exact w_c5
set_option maxRecDepth 65536 in
theorem w_t1 : (words1.take 24).all (fun c => isCode c || c.before args0 about1) = true := by decide +kernel
set_option maxRecDepth 65536 in
theorem w_t2 : (words1.drop 24).all (fun c => isCode c || c.before args0 about1) = true := by decide +kernel
theorem w_tables : (allAtoms (Jvm.Cond.code x code maxLocals ret :: tables_1)).before args0 about1 = true := by
  rw [allAtoms_all]
  show words1.all (fun c => c.before args0 about1) = true
  refine all_split ?_ w_codes
  rw [← List.take_append_drop 24 words1, List.all_append, w_t1, w_t2]
  rfl
set_option maxRecDepth 65536 in
theorem w_case : (Jvm.Cond.and given_1 narrow_1).before args0 about1 = true := by decide +kernel
theorem w_applies : (headSpec (Jvm.Cond.code x code maxLocals ret :: tables_1) room_1).applies x e0.platform about1 = true :=
  (Spec.applies_iff w_frames).mpr ⟨w_running, w_runnable, w_alone, w_named, w_hears, w_ripe, w_room, w_tables⟩
theorem atStart : AtStart classFile x code maxLocals ret World_1 tables_1 room_1 Calls_1 rest_1 Pre_1 launch0 p0 e0 about1 theMethod args0 below0 :=
  ⟨lists_1, trivial, launch0.admits_env _ _ _, launch0.least_env, fairChoices_fair.cas, fairChoices_fair.clock, w_frames, w_args, w_heap, w_applies, trivial, trivial, w_case⟩
end start1
theorem witness_1 : WitnessClaimed_1 := ⟨start1.p0, start1.e0, start1.about1, start1.theMethod, start1.args0, start1.below0, start1.atStart⟩
end Jvm.Pilot.@@N@@
